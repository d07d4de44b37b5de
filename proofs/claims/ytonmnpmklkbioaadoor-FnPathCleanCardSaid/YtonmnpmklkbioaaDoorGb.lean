/- 7 texts of this claim, one behind the other. -/
import Derived.WalkKit
import Derived.Deep.Quiet
import Derived.KernelRfl
import Derived.Test.YtonmnpmklkbioaaDoorGa
import Derived.Test.YtonmnpmklkbioaaDoorProg
import Derived.Shelf.Unicode.DecodeAny
import Derived.Shelf.Unicode.DecodeLastEight
import Derived.Shelf.Strings.FuncGrows
import Derived.Shelf.Bytes.BufferK
import Derived.Shelf.Bytes.String
import Derived.Shelf.Bytes.GrowKept
import Derived.Shelf.Wr.WriteRune
/- A symbolic walk by reckoning: a function over the code tells a tree of what is asked and where each way ends; a theorem says that the code does so. No condition of its own. -/
namespace Go.Proofs.YtonmnpmklkbioaaDoor.Sy
open Go.RowKit
set_option linter.unusedVariables false
set_option linter.unusedSimpArgs false
/-- What a slot holds: a value, or a letter of the walk's own alphabet. -/
inductive E (A : Type) where
  | lit (v : Value)
  | atom (x : A)
inductive Ex where
  | normal
  | exit (n : Nat)
  | ret
  /-- no rule serves there -/
  | bad
def Ex.to : Ex → Exit
  | .normal => .normal
  | .exit n => .exit n
  | .ret => .ret
  | .bad => .ret
abbrev Env (A : Type) := List (Nat × E A)
def Env.get {A : Type} : Env A → Nat → Option (E A)
  | [], _ => none
  | (j, e) :: l, i => bif Nat.beq j i then some e else Env.get l i
/-- Where the ways end, and what is asked on the way. -/
inductive DT (A F : Type) where
  | leaf (x : Ex) (env : Env A) (tr : List F)
  | br (t : A) (d1 d2 : DT A F)
def DT.run {A F : Type} (B : A → Bool) : DT A F → Ex × Env A × List F
  | .leaf x env tr => (x, env, tr)
  | .br t d1 d2 => if B t then d1.run B else d2.run B
structure Rules (A F : Type) where
  /-- what an operation gives, and what it does -/
  rule : Op → List (E A) → Option (E A × List F)
  /-- the same of operations that do nothing -/
  quiet : Op → List (E A) → Option (E A)
  isB : A → Bool
  n : Nat
  /-- whether these may be done behind those -/
  lim : List F → List F → Bool
section
variable {A F : Type} (r : Rules A F)
def opE (env : Env A) : Operand → Option (E A)
  | .tmp t => env.get t
  | .const v => some (.lit v)
  | .global g => some (.lit (.pointer (some ⟨g, 0, none⟩)))
  | .func f => some (.lit (.func (.func f) #[] #[]))
def opsE (env : Env A) : List Operand → Option (List (E A))
  | [] => some []
  | x :: l => match opE env x, opsE env l with
    | some e, some es => some (e :: es)
    | _, _ => none
def optL : Option Operand → List Operand
  | some x => [x]
  | none => []
def opnds : Op → Option (List Operand)
  | .binOp _ _ x y _ => some [x, y]
  | .unOp _ _ x => some [x]
  | .convert _ _ x => some [x]
  | .load _ x => some [x]
  | .nilCheck x => some [x]
  | .makeInterface _ x => some [x]
  | .fieldAddr _ x _ => some [x]
  | .field _ x _ => some [x]
  | .index _ x i => some [x, i]
  | .indexAddr _ x i => some [x, i]
  | .slice _ x lo hi mx => some (x :: (optL lo ++ (optL hi ++ optL mx)))
  | .extract x _ => some [x]
  | .store _ x y => some [x, y]
  | .call c => some c.args.toList
  | .makeFunc _ first cap => some (first.toList ++ cap.toList)
  | _ => none
def envPut (env : Env A) (d : Option Nat) (e : E A) : Option (Env A) :=
  match d with
  | none => some env
  | some d => bif Nat.blt d r.n then some ((d, e) :: env) else none
/-- Is the operation wanted? none: that hangs on a letter. -/
inductive Want (A : Type) where
  | yes
  | no
  | ask (t : A) (b : Bool)
  | unknown
def wantE (ops : List Oper) (env : Env A) (o : Oper) : Want A :=
  match o.guard with
  | none => .yes
  | some (j, b) =>
    match ops[j]? with
    | none => .unknown
    | some oj =>
      match oj.dst with
      | none => .unknown
      | some d =>
        match env.get d with
        | some (.lit (.bool c)) => bif c == b then .yes else .no
        | some (.lit (.tuple _)) => .no
        | some (.atom t) => bif r.isB t then .ask t b else .unknown
        | _ => .unknown
abbrev Kt (A F : Type) := Env A → List F → Option (DT A F)
def bad? : Option (DT A F) := some (.leaf .bad [] [])
def br? (t : A) (x y : Option (DT A F)) : Option (DT A F) :=
  match x, y with
  | some d1, some d2 => some (.br t d1 d2)
  | _, _ => none
def putK (env : Env A) (tr : List F) (d : Option Nat) (e : E A) (k : Kt A F) : Option (DT A F) :=
  match envPut r env d e with
  | some env' => k env' tr
  | none => none
def evalOp (q : Bool) (o : Oper) (env : Env A) (tr : List F) (k : Kt A F) : Option (DT A F) :=
  match o.op with
  | .move x => match opE env x with
    | some e => putK r env tr o.dst e k
    | none => bad?
  | .assign x => match opE env x with
    | some e => putK r env tr o.dst e k
    | none => bad?
  | .pick c x y => match opE env c with
    | some (.lit (.bool b)) => match opE env (if b then x else y) with
      | some e => putK r env tr o.dst e k
      | none => bad?
    | some (.atom t) => bif r.isB t then (match opE env x, opE env y with
      | some ex, some ey => br? t (putK r env tr o.dst ex k) (putK r env tr o.dst ey k)
      | _, _ => bad?) else bad?
    | _ => bad?
  | op => match opnds op with
    | some xs => match opsE env xs with
      | some es => bif q then (match r.quiet op es with
        | some e => putK r env tr o.dst e k
        | none => bad?) else (match r.rule op es with
        | some (e, f) => bif r.lim tr f then putK r env (tr ++ f) o.dst e k else bad?
        | none => bad?)
      | none => bad?
    | none => bad?
def compOps (q : Bool) (ops : List Oper) : List Oper → Env A → List F → Kt A F → Option (DT A F)
  | [], env, tr, k => k env tr
  | o :: l, env, tr, k =>
    match wantE r ops env o with
    | .yes => evalOp r q o env tr (fun env tr => compOps q ops l env tr k)
    | .no => putK r env tr o.dst (.lit undef) (fun env tr => compOps q ops l env tr k)
    | .ask t b => bif b then br? t (evalOp r q o env tr (fun env tr => compOps q ops l env tr k)) (putK r env tr o.dst (.lit undef) (fun env tr => compOps q ops l env tr k))
      else br? t (putK r env tr o.dst (.lit undef) (fun env tr => compOps q ops l env tr k)) (evalOp r q o env tr (fun env tr => compOps q ops l env tr k))
    | .unknown => bad?
def lookB (bl : List (Nat × Kt A F)) (id : Nat) : Option (Kt A F) :=
  match bl with
  | [] => none
  | (j, k) :: l => bif Nat.beq j id then some k else lookB l id
def comp : Code → Env A → List F → List (Nat × Kt A F) → Kt A F → Option (DT A F)
  | .skip, env, tr, bl, k => k env tr
  | .region _ ops false, env, tr, bl, k => compOps r false ops.toList ops.toList env tr k
  | .region _ ops true, env, tr, bl, k => bif Region.lexB .any ops then compOps r true ops.toList ops.toList env tr k else none
  | .seq a b, env, tr, bl, k => comp a env tr bl (fun env tr => comp b env tr bl k)
  | .cond c a b, env, tr, bl, k =>
    match opE env c with
    | some (.lit (.bool t)) => bif t then comp a env tr bl k else comp b env tr bl k
    | some (.atom t) => bif r.isB t then br? t (comp a env tr bl k) (comp b env tr bl k) else bad?
    | _ => bad?
  | .block id c, env, tr, bl, k => comp c env tr ((id, k) :: bl) k
  | .exit id, env, tr, bl, k => match lookB bl id with
    | some kb => kb env tr
    | none => some (.leaf (.exit id) env tr)
  | .ret, env, tr, bl, k => some (.leaf .ret env tr)
  | _, _, _, _, _ => none
/-- A statement from its beginning. -/
def comp0 (c : Code) (env : Env A) : Option (DT A F) := comp r c env [] [] (fun env tr => some (.leaf .normal env tr))
end
/-! Soundness. -/
section
variable {A F : Type} (r : Rules A F) (P : Program) (V : A → Value) (B : A → Bool) (R : List F → World → Prop)
def E.val : E A → Value
  | .lit v => v
  | .atom x => V x
structure Fits (env : Env A) (a : Act) : Prop where
  df : a.defers = []
  sz : a.tmps.size = r.n
  at_ : ∀ i e, env.get i = some e → a.tmps[i]? = some (e.val V)
/-- What is owed of the rules. -/
structure Sound : Prop where
  isB : ∀ t, r.isB t = true → V t = .bool (B t)
  rule : ∀ (o : Oper) es e f xs, r.rule o.op es = some (e, f) → opnds o.op = some xs → ∀ (a : Act) w tr next Q, r.lim tr f = true → xs.map a.eval = es.map (E.val V) → R tr w → (∀ w', R (tr ++ f) w' → next (a.put o.dst (e.val V)) w') → o.wp P a w next Q
  quiet : ∀ (o : Oper) es e xs, r.quiet o.op es = some e → opnds o.op = some xs → ∀ (a : Act) w tr, xs.map a.eval = es.map (E.val V) → R tr w → o.quietAt P a (fun w' => ∃ n, w' = w.drewN n) w (e.val V)
  mixed : P.follows .mixedOrders = true
  drew : ∀ tr w n, R tr w → R tr (w.drewN n)
variable {r P V B R}
theorem Env.get_cons (d : Nat) (e : E A) (env : Env A) (i : Nat) : Env.get ((d, e) :: env) i = if d = i then some e else env.get i := by
  show (bif Nat.beq d i then some e else env.get i) = _
  by_cases h : d = i
  · subst h; simp
  · have : Nat.beq d i = false := by rw [← Bool.not_eq_true, Nat.beq_eq]; exact h
    rw [this, if_neg h]; rfl
theorem Fits.opE {env : Env A} {a : Act} (h : Fits r V env a) {x : Operand} {e : E A} (hx : Sy.opE env x = some e) : a.eval x = e.val V := by
  cases x with
  | tmp t =>
    have := h.at_ t e hx
    simp [Act.eval, this]
  | const v => cases hx; rfl
  | global g => cases hx; rfl
  | func f => cases hx; rfl
theorem Fits.opsE {env : Env A} {a : Act} (h : Fits r V env a) : ∀ {xs : List Operand} {es : List (E A)}, Sy.opsE env xs = some es → xs.map a.eval = es.map (E.val V)
  | [], es, hx => by cases hx; rfl
  | x :: xs, es, hx => by
    unfold Sy.opsE at hx
    split at hx
    · rename_i e es' h1 h2
      cases hx
      simp only [List.map_cons]
      rw [h.opE h1, h.opsE h2]
    · cases hx
theorem Fits.put {env env' : Env A} {a : Act} (h : Fits r V env a) {d : Option Nat} {e : E A} (he : envPut r env d e = some env') : Fits r V env' (a.put d (e.val V)) := by
  cases d with
  | none => cases he; exact h
  | some d =>
    unfold envPut at he
    simp only at he
    cases hd : Nat.blt d r.n with
    | false => rw [hd] at he; cases he
    | true =>
      rw [hd] at he
      cases he
      have hd' : d < r.n := by simpa using hd
      refine ⟨h.df, by simp [Act.put, h.sz], fun i e' hi => ?_⟩
      rw [Env.get_cons] at hi
      simp only [Act.put]
      by_cases hdi : d = i
      · subst hdi
        rw [if_pos rfl] at hi
        cases hi
        rw [Array.getElem?_setIfInBounds_self_of_lt (by rw [h.sz]; exact hd')]
      · rw [if_neg hdi] at hi
        rw [Array.getElem?_setIfInBounds_ne hdi]
        exact h.at_ i e' hi
theorem putK_inv {env : Env A} {tr : List F} {d : Option Nat} {e : E A} {k : Kt A F} {D : DT A F} (h : putK r env tr d e k = some D) : ∃ env', envPut r env d e = some env' ∧ k env' tr = some D := by
  unfold putK at h
  split at h
  · rename_i env' h1; exact ⟨env', h1, h⟩
  · cases h
theorem br_inv {t : A} {x y : Option (DT A F)} {D : DT A F} (h : br? t x y = some D) : ∃ d1 d2, x = some d1 ∧ y = some d2 ∧ D = .br t d1 d2 := by
  unfold br? at h
  split at h
  · rename_i d1 d2; cases h; exact ⟨d1, d2, rfl, rfl, rfl⟩
  · cases h
theorem run_br {t : A} {d1 d2 : DT A F} : (DT.br t d1 d2).run B = if B t then d1.run B else d2.run B := rfl
/-- What is owed of the way behind. -/
def Owed (r : Rules A F) (V : A → Value) (B : A → Bool) (R : List F → World → Prop) (k : Kt A F) (out : Ex × Env A × List F) (Q : Act → World → Prop) : Prop :=
  ∀ env tr D a w, k env tr = some D → D.run B = out → Fits r V env a → R tr w → Q a w
theorem evalOp_wp (hS : Sound r P V B R) {o : Oper} {env : Env A} {tr : List F} {k : Kt A F} {D : DT A F} (h : evalOp r false o env tr k = some D) (hnb : (D.run B).1 ≠ .bad) {a : Act} {w : World} (hF : Fits r V env a) (hR : R tr w) {next : Act → World → Prop} {Q : Exit → Act → World → Prop}
    (hk : Owed r V B R k (D.run B) next) : o.wp P a w next Q := by
  have mv : ∀ x, (o.op = .move x ∨ o.op = .assign x) → ∀ e, Sy.opE env x = some e → putK r env tr o.dst e k = some D → o.wp P a w next Q := by
    intro x hx e h1 h2
    obtain ⟨env', h3, h4⟩ := putK_inv h2
    have h5 := hk env' tr D (a.put o.dst (e.val V)) w h4 rfl (hF.put h3) hR
    rw [← hF.opE h1] at h5
    unfold Oper.wp execOp
    rcases hx with hx | hx <;> rw [hx] <;> exact h5
  unfold evalOp at h
  split at h
  · rename_i x hx
    split at h
    · rename_i e h1; exact mv x (.inl hx) e h1 h
    · first | (cases h; done) | (cases h; exact absurd rfl hnb)
  · rename_i x hx
    split at h
    · rename_i e h1; exact mv x (.inr hx) e h1 h
    · first | (cases h; done) | (cases h; exact absurd rfl hnb)
  · rename_i c x y hop
    have pk : ∀ b : Bool, a.eval c = .bool b → ∀ e, Sy.opE env (if b then x else y) = some e → ∀ D', putK r env tr o.dst e k = some D' → D'.run B = D.run B → o.wp P a w next Q := by
      intro b hb e h1 D' h2 h6
      obtain ⟨env', h3, h4⟩ := putK_inv h2
      have h5 := hk env' tr D' (a.put o.dst (e.val V)) w h4 h6 (hF.put h3) hR
      rw [← hF.opE h1] at h5
      unfold Oper.wp execOp
      rw [hop]
      cases b with
      | true => simp only [hb]; exact h5
      | false => simp only [hb]; exact h5
    split at h
    · rename_i b hb
      split at h
      · rename_i e h1
        exact pk b (hF.opE hb) e h1 D h rfl
      · first | (cases h; done) | (cases h; exact absurd rfl hnb)
    · rename_i t ht
      cases hB : r.isB t with
      | false => rw [hB] at h; first | (cases h; done) | (cases h; exact absurd rfl hnb)
      | true =>
        rw [hB] at h
        simp only [cond_true] at h
        split at h
        · rename_i ex ey h1 h2
          obtain ⟨d1, d2, h3, h4, rfl⟩ := br_inv h
          have hv : a.eval c = .bool (B t) := (hF.opE ht).trans (hS.isB t hB)
          cases hb : B t with
          | true => exact pk true (by rw [hv, hb]) ex h1 d1 h3 (by simp [run_br, hb])
          | false => exact pk false (by rw [hv, hb]) ey h2 d2 h4 (by simp [run_br, hb])
        · first | (cases h; done) | (cases h; exact absurd rfl hnb)
    · first | (cases h; done) | (cases h; exact absurd rfl hnb)
  · split at h
    · rename_i xs hxs
      split at h
      · rename_i es hes
        simp only [cond_false] at h
        split at h
        · rename_i e f hr
          cases hl : r.lim tr f with
          | false => rw [hl] at h; first | (cases h; done) | (cases h; exact absurd rfl hnb)
          | true =>
            rw [hl] at h
            simp only [cond_true] at h
            obtain ⟨env', h3, h4⟩ := putK_inv h
            exact hS.rule o es e f xs hr hxs a w tr next Q hl (hF.opsE hes) hR (fun w' hR' => hk env' (tr ++ f) D _ w' h4 rfl (hF.put h3) hR')
        · first | (cases h; done) | (cases h; exact absurd rfl hnb)
      · first | (cases h; done) | (cases h; exact absurd rfl hnb)
    · first | (cases h; done) | (cases h; exact absurd rfl hnb)
theorem wantE_sound (hS : Sound r P V B R) {ops : List Oper} {env : Env A} {o : Oper} {a : Act} (hF : Fits r V env a) :
    (wantE r ops env o = .yes → Region.wanted o (yielded ops.toArray a.tmps) = true) ∧ (wantE r ops env o = .no → Region.wanted o (yielded ops.toArray a.tmps) = false) ∧
    (∀ t b, wantE r ops env o = .ask t b → Region.wanted o (yielded ops.toArray a.tmps) = (B t == b) ∧ r.isB t = true) := by
  unfold wantE Region.wanted
  cases hg : o.guard with
  | none => simp
  | some p =>
    obtain ⟨j, b⟩ := p
    simp only
    cases hj : ops[j]? with
    | none => simp
    | some oj =>
      simp only
      cases hd : oj.dst with
      | none => simp
      | some d =>
        simp only
        have hy : ∀ e, env.get d = some e → yielded ops.toArray a.tmps j = (match e.val V with | .bool c => some c | _ => none) := by
          intro e he
          unfold yielded
          have h1 := hF.at_ d e he
          simp only [List.getElem?_toArray, hj, Option.bind_some, hd, h1]
          cases e.val V <;> rfl
        cases he : env.get d with
        | none => simp
        | some e =>
          have hye := hy e he
          cases e with
          | lit v =>
            cases v with
            | bool c =>
              simp only [E.val] at hye
              simp only
              cases c <;> cases b <;> simp [hye]
            | tuple l =>
              simp only [E.val] at hye
              simp [hye]
            | _ => simp
          | atom t =>
            simp only
            cases hB : r.isB t with
            | false => simp
            | true =>
              simp only [E.val, hS.isB t hB] at hye
              simp only [cond_true]
              refine ⟨by simp, by simp, fun t' b' h => ?_⟩
              cases h
              refine ⟨?_, hB⟩
              rw [hye]
              cases B t <;> cases b <;> rfl
theorem compOps_wp (hS : Sound r P V B R) {ops : List Oper} {Q : Exit → Act → World → Prop} : ∀ {l : List Oper} {env : Env A} {tr : List F} {k : Kt A F} {D : DT A F}, compOps r false ops l env tr k = some D → (D.run B).1 ≠ .bad → ∀ {a : Act} {w : World}, Fits r V env a → R tr w →
    Owed r V B R k (D.run B) (Q .normal) → wpList P ops.toArray Q l a w
  | [], env, tr, k, D, h, hnb, a, w, hF, hR, hk => hk env tr D a w h rfl hF hR
  | o :: l, env, tr, k, D, h, hnb, a, w, hF, hR, hk => by
    obtain ⟨w1, w2, w3⟩ := wantE_sound hS (ops := ops) (o := o) hF
    refine wpList_step fun K hK => ?_
    have yes : ∀ D', evalOp r false o env tr (fun env tr => compOps r false ops l env tr k) = some D' → D'.run B = D.run B → o.wp P a w K Q := by
      intro D' h1 h2
      refine evalOp_wp hS h1 (by rw [h2]; exact hnb) hF hR (fun env' tr' D'' a' w' h3 h4 hF' hR' => hK a' w' ?_)
      exact compOps_wp hS h3 (by rw [h4, h2]; exact hnb) hF' hR' (by rw [h4, h2]; exact hk)
    have no : ∀ D', putK r env tr o.dst (.lit undef) (fun env tr => compOps r false ops l env tr k) = some D' → D'.run B = D.run B → K (a.put o.dst undef) w := by
      intro D' h1 h2
      obtain ⟨env', h3, h4⟩ := putK_inv h1
      exact hK _ _ (compOps_wp hS h4 (by rw [h2]; exact hnb) (hF.put h3) hR (by rw [h2]; exact hk))
    unfold compOps at h
    split at h
    · rename_i hw
      rw [if_pos (w1 hw)]
      exact yes D h rfl
    · rename_i hw
      rw [if_neg (by rw [w2 hw]; exact Bool.false_ne_true)]
      exact no D h rfl
    · rename_i t b hw
      obtain ⟨w4, w5⟩ := w3 t b hw
      rw [w4]
      cases b with
      | true =>
        simp only [cond_true] at h
        obtain ⟨d1, d2, h3, h4, rfl⟩ := br_inv h
        cases hb : B t with
        | true => rw [if_pos (by decide)]; exact yes d1 h3 (by simp [run_br, hb])
        | false => rw [if_neg (by decide)]; exact no d2 h4 (by simp [run_br, hb])
      | false =>
        simp only [cond_false] at h
        obtain ⟨d1, d2, h3, h4, rfl⟩ := br_inv h
        cases hb : B t with
        | true => rw [if_neg (by decide)]; exact no d1 h3 (by simp [run_br, hb])
        | false => rw [if_pos (by decide)]; exact yes d2 h4 (by simp [run_br, hb])
    · first | (cases h; done) | (cases h; exact absurd rfl hnb)
theorem evalOp_quiet (hS : Sound r P V B R) {o : Oper} {env : Env A} {tr : List F} {k : Kt A F} {D : DT A F} (h : evalOp r true o env tr k = some D) (hnb : (D.run B).1 ≠ .bad) {a : Act} {w : World} (hF : Fits r V env a) (hR : R tr w) {next : Act → Prop}
    (hk : ∀ env' D' a', k env' tr = some D' → D'.run B = D.run B → Fits r V env' a' → next a') : o.quiet P a (fun w' => ∃ n, w' = w.drewN n) next := by
  have mv : ∀ x, (o.op = .move x ∨ o.op = .assign x) → ∀ e, Sy.opE env x = some e → putK r env tr o.dst e k = some D → o.quiet P a (fun w' => ∃ n, w' = w.drewN n) next := by
    intro x hx e h1 h2
    obtain ⟨env', h3, h4⟩ := putK_inv h2
    have h5 := hk env' D (a.put o.dst (e.val V)) h4 rfl (hF.put h3)
    rw [← hF.opE h1] at h5
    refine ⟨_, fun w' _ => ?_, h5⟩
    unfold Oper.quietAt execOp
    rcases hx with hx | hx <;> rw [hx] <;> exact ⟨rfl, rfl⟩
  unfold evalOp at h
  split at h
  · rename_i x hx
    split at h
    · rename_i e h1; exact mv x (.inl hx) e h1 h
    · first | (cases h; done) | (cases h; exact absurd rfl hnb)
  · rename_i x hx
    split at h
    · rename_i e h1; exact mv x (.inr hx) e h1 h
    · first | (cases h; done) | (cases h; exact absurd rfl hnb)
  · rename_i c x y hop
    have pk : ∀ b : Bool, a.eval c = .bool b → ∀ e, Sy.opE env (if b then x else y) = some e → ∀ D', putK r env tr o.dst e k = some D' → D'.run B = D.run B → o.quiet P a (fun w' => ∃ n, w' = w.drewN n) next := by
      intro b hb e h1 D' h2 h6
      obtain ⟨env', h3, h4⟩ := putK_inv h2
      have h5 := hk env' D' (a.put o.dst (e.val V)) h4 h6 (hF.put h3)
      rw [← hF.opE h1] at h5
      refine ⟨_, fun w' _ => ?_, h5⟩
      unfold Oper.quietAt execOp
      rw [hop]
      cases b with
      | true => simp only [hb]; exact ⟨rfl, rfl⟩
      | false => simp only [hb]; exact ⟨rfl, rfl⟩
    split at h
    · rename_i b hb
      split at h
      · rename_i e h1
        exact pk b (hF.opE hb) e h1 D h rfl
      · first | (cases h; done) | (cases h; exact absurd rfl hnb)
    · rename_i t ht
      cases hB : r.isB t with
      | false => rw [hB] at h; first | (cases h; done) | (cases h; exact absurd rfl hnb)
      | true =>
        rw [hB] at h
        simp only [cond_true] at h
        split at h
        · rename_i ex ey h1 h2
          obtain ⟨d1, d2, h3, h4, rfl⟩ := br_inv h
          have hv : a.eval c = .bool (B t) := (hF.opE ht).trans (hS.isB t hB)
          cases hb : B t with
          | true => exact pk true (by rw [hv, hb]) ex h1 d1 h3 (by simp [run_br, hb])
          | false => exact pk false (by rw [hv, hb]) ey h2 d2 h4 (by simp [run_br, hb])
        · first | (cases h; done) | (cases h; exact absurd rfl hnb)
    · first | (cases h; done) | (cases h; exact absurd rfl hnb)
  · split at h
    · rename_i xs hxs
      split at h
      · rename_i es hes
        simp only [cond_true] at h
        split at h
        · rename_i e hr
          obtain ⟨env', h3, h4⟩ := putK_inv h
          refine ⟨_, fun w' hw' => ?_, hk env' D _ h4 rfl (hF.put h3)⟩
          obtain ⟨n, rfl⟩ := hw'
          have := hS.quiet o es e xs hr hxs a (w.drewN n) tr (hF.opsE hes) (hS.drew tr w n hR)
          unfold Oper.quietAt Oper.quietUpon at this ⊢
          split at this
          · exact this
          · exact this
          · refine ⟨this.1, this.2.mono ?_⟩
            rintro e' w' ⟨h1, m, h2⟩
            exact ⟨h1, n + m, by rw [h2]; simp [World.drewN, Nat.add_assoc]⟩
          · exact this
        · first | (cases h; done) | (cases h; exact absurd rfl hnb)
      · first | (cases h; done) | (cases h; exact absurd rfl hnb)
    · first | (cases h; done) | (cases h; exact absurd rfl hnb)
theorem compOps_quiet (hS : Sound r P V B R) {ops : List Oper} {Q : Act → Prop} {w : World} : ∀ {l : List Oper} {env : Env A} {tr : List F} {k : Kt A F} {D : DT A F}, compOps r true ops l env tr k = some D → (D.run B).1 ≠ .bad → ∀ {a : Act}, Fits r V env a → R tr w →
    (∀ env' D' a', k env' tr = some D' → D'.run B = D.run B → Fits r V env' a' → Q a') → wpQuiet P ops.toArray (fun w' => ∃ n, w' = w.drewN n) Q l a
  | [], env, tr, k, D, h, hnb, a, hF, hR, hk => hk env D a h rfl hF
  | o :: l, env, tr, k, D, h, hnb, a, hF, hR, hk => by
    obtain ⟨w1, w2, w3⟩ := wantE_sound hS (ops := ops) (o := o) hF
    refine wpQuiet_step fun K hK => ?_
    have yes : ∀ D', evalOp r true o env tr (fun env tr => compOps r true ops l env tr k) = some D' → D'.run B = D.run B → o.quiet P a (fun w' => ∃ n, w' = w.drewN n) K := by
      intro D' h1 h2
      refine evalOp_quiet hS h1 (by rw [h2]; exact hnb) hF hR (fun env' D'' a' h3 h4 hF' => hK a' ?_)
      exact compOps_quiet hS h3 (by rw [h4, h2]; exact hnb) hF' hR (by rw [h4, h2]; exact hk)
    have no : ∀ D', putK r env tr o.dst (.lit undef) (fun env tr => compOps r true ops l env tr k) = some D' → D'.run B = D.run B → K (a.put o.dst undef) := by
      intro D' h1 h2
      obtain ⟨env', h3, h4⟩ := putK_inv h1
      exact hK _ (compOps_quiet hS h4 (by rw [h2]; exact hnb) (hF.put h3) hR (by rw [h2]; exact hk))
    unfold compOps at h
    split at h
    · rename_i hw
      rw [if_pos (w1 hw)]
      exact yes D h rfl
    · rename_i hw
      rw [if_neg (by rw [w2 hw]; exact Bool.false_ne_true)]
      exact no D h rfl
    · rename_i t b hw
      obtain ⟨w4, w5⟩ := w3 t b hw
      rw [w4]
      cases b with
      | true =>
        simp only [cond_true] at h
        obtain ⟨d1, d2, h3, h4, rfl⟩ := br_inv h
        cases hb : B t with
        | true => rw [if_pos (by decide)]; exact yes d1 h3 (by simp [run_br, hb])
        | false => rw [if_neg (by decide)]; exact no d2 h4 (by simp [run_br, hb])
      | false =>
        simp only [cond_false] at h
        obtain ⟨d1, d2, h3, h4, rfl⟩ := br_inv h
        cases hb : B t with
        | true => rw [if_neg (by decide)]; exact no d1 h3 (by simp [run_br, hb])
        | false => rw [if_pos (by decide)]; exact yes d2 h4 (by simp [run_br, hb])
    · first | (cases h; done) | (cases h; exact absurd rfl hnb)
theorem comp_wp (hS : Sound r P V B R) : ∀ {c : Code} {env : Env A} {tr : List F} {bl : List (Nat × Kt A F)} {k : Kt A F} {D : DT A F}, comp r c env tr bl k = some D → (D.run B).1 ≠ .bad → ∀ {a : Act} {w : World} {Q : Exit → Act → World → Prop}, Fits r V env a → R tr w →
    Owed r V B R k (D.run B) (Q .normal) → (∀ id kb, lookB bl id = some kb → Owed r V B R kb (D.run B) (Q (.exit id))) →
    (∀ id env' tr' a' w', lookB bl id = none → D.run B = (.exit id, env', tr') → Fits r V env' a' → R tr' w' → Q (.exit id) a' w') →
    (∀ env' tr' a' w', D.run B = (.ret, env', tr') → Fits r V env' a' → R tr' w' → Q .ret a' w') → c.wp P Q a w := by
  intro c
  induction c with
  | skip => intro env tr bl k D h hnb a w Q hF hR hk hb he hr; exact wp_skip (hk env tr D a w h rfl hF hR)
  | region id ops draw =>
    intro env tr bl k D h hnb a w Q hF hR hk hb he hr
    cases draw with
    | false => exact wp_region_list (by have := compOps_wp hS (Q := Q) h hnb hF hR hk; simpa using this)
    | true =>
      simp only [comp] at h
      cases hl : Region.lexB .any ops with
      | false => rw [hl] at h; cases h
      | true =>
        rw [hl] at h
        simp only [cond_true] at h
        have h2 := compOps_quiet hS (Q := fun a' => ∀ w', (∃ n, w' = w.drewN n) → Q .normal a' w') (w := w) h hnb hF hR (fun env' D' a' h3 h4 hF' w' hw' => by
          obtain ⟨n, rfl⟩ := hw'
          exact hk env' tr D' a' _ h3 h4 hF' (hS.drew tr w n hR))
        have h3 := wp_region_quiet_lit (id := id) (Q := Q) (l := ops.toList) hS.mixed (by simpa using hl) h2
        simpa using h3
  | seq x y ihx ihy =>
    intro env tr bl k D h hnb a w Q hF hR hk hb he hr
    simp only [comp] at h
    refine wp_seq (ihx h hnb hF hR ?_ ?_ ?_ ?_)
    · intro env' tr' D' a' w' h1 h2 hF' hR'
      exact ihy h1 (by rw [h2]; exact hnb) hF' hR' (by rw [h2]; exact hk) (by rw [h2]; exact hb) (by rw [h2]; exact he) (by rw [h2]; exact hr)
    · exact hb
    · exact he
    · exact hr
  | cond c x y ihx ihy =>
    intro env tr bl k D h hnb a w Q hF hR hk hb he hr
    simp only [comp] at h
    split at h
    · rename_i t ht
      cases t with
      | true => exact wp_cond_true (hF.opE ht) (ihx h hnb hF hR hk hb he hr)
      | false => exact wp_cond_false (hF.opE ht) (ihy h hnb hF hR hk hb he hr)
    · rename_i t ht
      cases hB : r.isB t with
      | false => rw [hB] at h; first | (cases h; done) | (cases h; exact absurd rfl hnb)
      | true =>
        rw [hB] at h
        simp only [cond_true] at h
        obtain ⟨d1, d2, h3, h4, rfl⟩ := br_inv h
        have hv : a.eval c = .bool (B t) := (hF.opE ht).trans (hS.isB t hB)
        cases hbt : B t with
        | true =>
          have e : (DT.br t d1 d2).run B = d1.run B := by simp [run_br, hbt]
          rw [e] at hk hb he hr hnb
          exact wp_cond_true (by rw [hv, hbt]) (ihx h3 hnb hF hR hk hb he hr)
        | false =>
          have e : (DT.br t d1 d2).run B = d2.run B := by simp [run_br, hbt]
          rw [e] at hk hb he hr hnb
          exact wp_cond_false (by rw [hv, hbt]) (ihy h4 hnb hF hR hk hb he hr)
    · first | (cases h; done) | (cases h; exact absurd rfl hnb)
  | block id c ih =>
    intro env tr bl k D h hnb a w Q hF hR hk hb he hr
    simp only [comp] at h
    refine wp_block (ih h hnb hF hR hk ?_ ?_ ?_)
    · intro id' kb hl
      unfold lookB at hl
      cases hi : Nat.beq id id' with
      | true =>
        rw [hi] at hl
        cases hl
        have : id = id' := by simpa using hi
        subst this
        intro env' tr' D' a' w' h1 h2 hF' hR'
        simp only [Exit.inBlock, if_true]
        exact hk env' tr' D' a' w' h1 h2 hF' hR'
      | false =>
        rw [hi] at hl
        have hne : ¬ id' = id := by
          intro e; subst e
          simp at hi
        intro env' tr' D' a' w' h1 h2 hF' hR'
        simp only [Exit.inBlock, if_neg hne]
        exact hb id' kb hl env' tr' D' a' w' h1 h2 hF' hR'
    · intro id' env' tr' a' w' hl h1 hF' hR'
      unfold lookB at hl
      cases hi : Nat.beq id id' with
      | true => rw [hi] at hl; cases hl
      | false =>
        rw [hi] at hl
        have hne : ¬ id' = id := by
          intro e; subst e
          simp at hi
        simp only [Exit.inBlock, if_neg hne]
        exact he id' env' tr' a' w' hl h1 hF' hR'
    · exact hr
  | exit id =>
    intro env tr bl k D h hnb a w Q hF hR hk hb he hr
    simp only [comp] at h
    split at h
    · rename_i kb hl; exact wp_exit (hb id kb hl env tr D a w h rfl hF hR)
    · rename_i hl; cases h; exact wp_exit (he id env tr a w hl rfl hF hR)
  | ret =>
    intro env tr bl k D h hnb a w Q hF hR hk hb he hr
    simp only [comp] at h
    cases h
    exact wp_ret (hr env tr a w rfl hF hR)
  | loop c => intro env tr bl k D h; simp [comp] at h
  | rangeFunc f p x y => intro env tr bl k D h; simp [comp] at h
  | scope c => intro env tr bl k D h; simp [comp] at h
  | label l => intro env tr bl k D h; simp [comp] at h
  | goto l => intro env tr bl k D h; simp [comp] at h
  | refuse s => intro env tr bl k D h; simp [comp] at h
/-- A statement: where its way ends. -/
theorem stmt_wp (hS : Sound r P V B R) {c : Code} {env : Env A} {D : DT A F} (h : comp0 r c env = some D) (hnb : (D.run B).1 ≠ .bad) {a : Act} {w : World} {Q : Exit → Act → World → Prop} (hF : Fits r V env a) (hR : R [] w)
    (hQ : ∀ a' w', Fits r V (D.run B).2.1 a' → R (D.run B).2.2 w' → Q (D.run B).1.to a' w') : c.wp P Q a w := by
  refine comp_wp hS h hnb hF hR ?_ (fun id kb hl => by cases hl) ?_ ?_
  · intro env' tr' D' a' w' h1 h2 hF' hR'
    cases h1
    have h3 := hQ a' w'
    rw [← h2] at h3
    exact h3 hF' hR'
  · intro id env' tr' a' w' _ h2 hF' hR'
    have h3 := hQ a' w'
    rw [h2] at h3
    exact h3 hF' hR'
  · intro env' tr' a' w' h2 hF' hR'
    have h3 := hQ a' w'
    rw [h2] at h3
    exact h3 hF' hR'
end
/-! A chain of statements: behind each all that is known is what was known ahead of it. -/
section
variable {A F : Type} [DecidableEq A] (r : Rules A F)
def keeps (env0 env : Env A) : Bool := env0.all fun p => match env.get p.1, p.2 with
  | some (.atom x), .atom y => decide (x = y)
  | _, _ => false
def leavesOk (env0 : Env A) : DT A F → Bool
  | .leaf .normal env tr => tr.isEmpty && keeps env0 env
  | .leaf _ _ _ => true
  | .br _ a b => leavesOk env0 a && leavesOk env0 b
def single (c : Code) (env0 : Env A) : Option (List (DT A F)) :=
  match comp0 r c env0 with
  | some D => some [D]
  | none => none
def isSeq : Code → Bool
  | .seq _ _ => true
  | _ => false
def top : Code → Env A → Option (List (DT A F))
  | .seq a b, env0 => bif isSeq b then (match comp0 r a env0, top b env0 with
    | some D, some Ds => bif leavesOk env0 D then some (D :: Ds) else none
    | _, _ => none) else single r (.seq a b) env0
  | c, env0 => single r c env0
def runTop (B : A → Bool) : List (DT A F) → Ex × Env A × List F
  | [] => (.normal, [], [])
  | [D] => D.run B
  | D :: Ds => match D.run B with
    | (.normal, _, tr) => ((runTop B Ds).1, (runTop B Ds).2.1, tr ++ (runTop B Ds).2.2)
    | o => o
end
section
variable {A F : Type} [DecidableEq A] {r : Rules A F} {P : Program} {V : A → Value} {B : A → Bool} {R : List F → World → Prop}
end
section
variable {A F : Type} {r : Rules A F} {P : Program} {V : A → Value} {B : A → Bool} {R : List F → World → Prop}
theorem get_mem {env : Env A} {i : Nat} {e : E A} (h : env.get i = some e) : (i, e) ∈ env := by
  induction env with
  | nil => cases h
  | cons p l ih =>
    obtain ⟨d, e'⟩ := p
    rw [Env.get_cons] at h
    by_cases hd : d = i
    · rw [if_pos hd] at h; cases h; subst hd; simp
    · rw [if_neg hd] at h; exact List.mem_cons_of_mem _ (ih h)
end
section
variable {A F : Type} [DecidableEq A] {r : Rules A F} {P : Program} {V : A → Value} {B : A → Bool} {R : List F → World → Prop}
theorem keeps_fits {env0 env : Env A} (h : keeps env0 env = true) {a : Act} (hF : Fits r V env a) : Fits r V env0 a := by
  refine ⟨hF.df, hF.sz, fun i e he => ?_⟩
  have h1 := List.all_eq_true.1 h _ (get_mem he)
  simp only at h1
  split at h1
  · rename_i x y hx
    have : x = y := of_decide_eq_true h1
    subst this
    exact hF.at_ i _ hx
  · cases h1
theorem leaves_normal {env0 : Env A} {D : DT A F} (h : leavesOk env0 D = true) : ∀ env tr, D.run B = (.normal, env, tr) → tr = [] ∧ keeps env0 env = true := by
  induction D with
  | leaf x env tr =>
    intro env' tr' e
    cases e
    simp only [leavesOk, Bool.and_eq_true, List.isEmpty_iff] at h
    exact h
  | br t d1 d2 ih1 ih2 =>
    intro env tr e
    simp only [leavesOk, Bool.and_eq_true] at h
    rw [run_br] at e
    split at e
    · exact ih1 h.1 env tr e
    · exact ih2 h.2 env tr e
end
section
variable {A F : Type} {r : Rules A F} {P : Program} {V : A → Value} {B : A → Bool} {R : List F → World → Prop}
theorem single_wp (hS : Sound r P V B R) {c : Code} {env0 : Env A} {Ds : List (DT A F)} (h : single r c env0 = some Ds) (hnb : (runTop B Ds).1 ≠ .bad) {a : Act} {w : World} {Q : Exit → Act → World → Prop} (hF : Fits r V env0 a) (hR : R [] w)
    (hQ : ∀ a' w', Fits r V (runTop B Ds).2.1 a' → R (runTop B Ds).2.2 w' → Q (runTop B Ds).1.to a' w') : c.wp P Q a w := by
  unfold single at h
  split at h
  · rename_i D hD
    cases h
    exact stmt_wp hS hD hnb hF hR hQ
  · cases h
end
section
variable {A F : Type} [DecidableEq A] {r : Rules A F} {P : Program} {V : A → Value} {B : A → Bool} {R : List F → World → Prop}
theorem top_wp (hS : Sound r P V B R) : ∀ {c : Code} {env0 : Env A} {Ds : List (DT A F)}, top r c env0 = some Ds → (runTop B Ds).1 ≠ .bad → ∀ {a : Act} {w : World} {Q : Exit → Act → World → Prop}, Fits r V env0 a → R [] w →
    (∀ a' w', Fits r V (runTop B Ds).2.1 a' → R (runTop B Ds).2.2 w' → Q (runTop B Ds).1.to a' w') → c.wp P Q a w := by
  intro c
  induction c with
  | seq x y ihx ihy =>
    intro env0 Ds h hnb a w Q hF hR hQ
    simp only [top] at h
    cases hs : isSeq y with
    | false => rw [hs] at h; exact single_wp hS h hnb hF hR hQ
    | true =>
      rw [hs] at h
      simp only [cond_true] at h
      split at h
      · rename_i D Ds' h1 h2
        cases hl : leavesOk env0 D with
        | false => rw [hl] at h; cases h
        | true =>
          rw [hl] at h
          simp only [cond_true] at h
          cases h
          have hne : ∃ D2 l, Ds' = D2 :: l := by
            cases Ds' with
            | nil =>
              exfalso
              cases y with
              | seq u v =>
                simp only [top] at h2
                cases hv : isSeq v with
                | false => rw [hv] at h2; simp only [cond_false] at h2; unfold single at h2; split at h2 <;> cases h2
                | true =>
                  rw [hv] at h2
                  simp only [cond_true] at h2
                  split at h2
                  · rename_i E1 E2 _ _
                    cases hq : leavesOk env0 E1 <;> rw [hq] at h2 <;> cases h2
                  · cases h2
              | _ => cases hs
            | cons D2 l => exact ⟨D2, l, rfl⟩
          obtain ⟨D2, l, rfl⟩ := hne
          obtain ⟨o, ho⟩ : ∃ o, D.run B = o := ⟨_, rfl⟩
          obtain ⟨x', env', tr'⟩ := o
          have hrt : runTop B (D :: D2 :: l) = (match D.run B with
            | (.normal, _, tr) => ((runTop B (D2 :: l)).1, (runTop B (D2 :: l)).2.1, tr ++ (runTop B (D2 :: l)).2.2)
            | o => o) := rfl
          rw [hrt, ho] at hQ hnb
          refine wp_seq (stmt_wp hS h1 (by rw [ho]; cases x' <;> first | exact hnb | (intro e; cases e)) hF hR ?_)
          intro a' w' hF' hR'
          rw [ho] at hF' hR' ⊢
          cases x' with
          | normal =>
            obtain ⟨rfl, hk⟩ := leaves_normal (B := B) hl env' tr' ho
            exact ihy h2 hnb (keeps_fits hk hF') hR' (fun a'' w'' h3 h4 => hQ a'' w'' h3 h4)
          | exit n => exact hQ a' w' hF' hR'
          | ret => exact hQ a' w' hF' hR'
          | bad => exact absurd rfl hnb
      · cases h
  | skip => intro env0 Ds h hnb a w Q hF hR hQ; exact single_wp hS h hnb hF hR hQ
  | region id ops draw => intro env0 Ds h hnb a w Q hF hR hQ; exact single_wp hS h hnb hF hR hQ
  | cond c x y _ _ => intro env0 Ds h hnb a w Q hF hR hQ; exact single_wp hS h hnb hF hR hQ
  | block id c _ => intro env0 Ds h hnb a w Q hF hR hQ; exact single_wp hS h hnb hF hR hQ
  | loop c _ => intro env0 Ds h hnb a w Q hF hR hQ; exact single_wp hS h hnb hF hR hQ
  | rangeFunc f p x y _ _ => intro env0 Ds h hnb a w Q hF hR hQ; exact single_wp hS h hnb hF hR hQ
  | exit id => intro env0 Ds h hnb a w Q hF hR hQ; exact single_wp hS h hnb hF hR hQ
  | scope c _ => intro env0 Ds h hnb a w Q hF hR hQ; exact single_wp hS h hnb hF hR hQ
  | label l => intro env0 Ds h hnb a w Q hF hR hQ; exact single_wp hS h hnb hF hR hQ
  | goto l => intro env0 Ds h hnb a w Q hF hR hQ; exact single_wp hS h hnb hF hR hQ
  | ret => intro env0 Ds h hnb a w Q hF hR hQ; exact single_wp hS h hnb hF hR hQ
  | refuse s => intro env0 Ds h hnb a w Q hF hR hQ; exact single_wp hS h hnb hF hR hQ
end
/-! What is looked at behind a chain: how it ends, some slots, what was done. -/
structure Lf (A F : Type) where
  x : Ex
  es : List (Option (E A))
  tr : List F
inductive DS (A F : Type) where
  | leaf (l : Lf A F)
  | br (t : A) (a b : DS A F)
def lfOf {A F : Type} (ks : List Nat) : Ex → Env A → List F → Lf A F
  | .normal, _, tr => ⟨.normal, [], tr⟩
  | x, env, tr => ⟨x, ks.map env.get, tr⟩
def strip {A F : Type} (ks : List Nat) : DT A F → DS A F
  | .leaf x env tr => .leaf (lfOf ks x env tr)
  | .br t a b => .br t (strip ks a) (strip ks b)
def DS.run {A F : Type} (B : A → Bool) : DS A F → Lf A F
  | .leaf l => l
  | .br t a b => bif B t then a.run B else b.run B
def runS {A F : Type} (B : A → Bool) : List (DS A F) → Lf A F
  | [] => ⟨.normal, [], []⟩
  | [d] => d.run B
  | d :: ds => match d.run B with
    | ⟨.normal, _, tr⟩ => ⟨(runS B ds).x, (runS B ds).es, tr ++ (runS B ds).tr⟩
    | o => o
theorem strip_run {A F : Type} (ks : List Nat) (B : A → Bool) (D : DT A F) : (strip ks D).run B = lfOf ks (D.run B).1 (D.run B).2.1 (D.run B).2.2 := by
  induction D with
  | leaf x env tr => rfl
  | br t a b ih1 ih2 =>
    simp only [strip, DS.run, run_br]
    cases B t
    · simpa using ih2
    · simpa using ih1
theorem stripTop {A F : Type} (ks : List Nat) (B : A → Bool) : ∀ Ds : List (DT A F), runS B (Ds.map (strip ks)) = lfOf ks (runTop B Ds).1 (runTop B Ds).2.1 (runTop B Ds).2.2
  | [] => rfl
  | [D] => strip_run ks B D
  | D :: D2 :: l => by
    have ih := stripTop ks B (D2 :: l)
    have h1 : runS B ((D :: D2 :: l).map (strip ks)) = (match (strip ks D).run B with
      | ⟨.normal, _, tr⟩ => ⟨(runS B ((D2 :: l).map (strip ks))).x, (runS B ((D2 :: l).map (strip ks))).es, tr ++ (runS B ((D2 :: l).map (strip ks))).tr⟩
      | o => o) := rfl
    have h2 : runTop B (D :: D2 :: l) = (match D.run B with
      | (.normal, _, tr) => ((runTop B (D2 :: l)).1, (runTop B (D2 :: l)).2.1, tr ++ (runTop B (D2 :: l)).2.2)
      | o => o) := rfl
    rw [h1, h2, strip_run, ih]
    obtain ⟨x, env, tr⟩ := D.run B
    cases x with
    | normal =>
      simp only [lfOf]
      obtain ⟨x2, env2, tr2⟩ := runTop B (D2 :: l)
      cases x2 <;> rfl
    | exit n => rfl
    | ret => rfl
    | bad => rfl
/-! A tree without what is known. -/
section
variable {A F : Type} [DecidableEq A]
def upd (known : A → Option Bool) (t : A) (v : Bool) : A → Option Bool := fun u => if u = t then some v else known u
def mergeBr (t : A) (a b : DS A F) : DS A F :=
  match a, b with
  | .leaf ⟨.normal, [], []⟩, .leaf ⟨.normal, [], []⟩ => .leaf ⟨.normal, [], []⟩
  | a, b => .br t a b
def norm : (A → Option Bool) → DS A F → DS A F
  | _, .leaf l => .leaf l
  | known, .br t a b => match known t with
    | some true => norm known a
    | some false => norm known b
    | none => mergeBr t (norm (upd known t true) a) (norm (upd known t false) b)
end
section
variable {A F : Type}
theorem merge_run (B : A → Bool) (t : A) (a b : DS A F) : (mergeBr t a b).run B = (DS.br t a b).run B := by
  unfold mergeBr
  split
  · simp only [DS.run]; cases B t <;> rfl
  · rfl
end
section
variable {A F : Type} [DecidableEq A]
theorem norm_run (B : A → Bool) : ∀ (d : DS A F) (known : A → Option Bool), (∀ t v, known t = some v → B t = v) → (norm known d).run B = d.run B
  | .leaf l, known, h => rfl
  | .br t a b, known, h => by
    have hu : ∀ v, B t = v → ∀ u x, upd known t v u = some x → B u = x := by
      intro v hv u x hx
      unfold upd at hx
      split at hx
      · rename_i e; subst e; cases hx; exact hv
      · exact h u x hx
    unfold norm
    split
    · rename_i hk
      rw [norm_run B a known h]
      simp only [DS.run, h t true hk, cond_true]
    · rename_i hk
      rw [norm_run B b known h]
      simp only [DS.run, h t false hk, cond_false]
    · rw [merge_run]
      simp only [DS.run]
      cases hb : B t with
      | true => simp only [cond_true]; exact norm_run B a _ (hu true hb)
      | false => simp only [cond_false]; exact norm_run B b _ (hu false hb)
theorem norm_list (B : A → Bool) (known : A → Option Bool) (h : ∀ t v, known t = some v → B t = v) : ∀ ds : List (DS A F), runS B (ds.map (norm known)) = runS B ds
  | [] => rfl
  | [d] => norm_run B d known h
  | d :: d2 :: l => by
    have ih := norm_list B known h (d2 :: l)
    have h1 : runS B ((d :: d2 :: l).map (norm known)) = (match (norm known d).run B with
      | ⟨.normal, _, tr⟩ => ⟨(runS B ((d2 :: l).map (norm known))).x, (runS B ((d2 :: l).map (norm known))).es, tr ++ (runS B ((d2 :: l).map (norm known))).tr⟩
      | o => o) := rfl
    rw [h1, norm_run B d known h, ih]
    rfl
end
/-- A tree whose ways end in 'true', or go on. -/
def DS.isT {A F : Type} (B : A → Bool) : DS A F → Bool
  | .leaf ⟨.ret, [some (.lit (.bool true))], _⟩ => true
  | .leaf _ => false
  | .br t a b => bif B t then a.isT B else b.isT B
def okHit {A F : Type} : DS A F → Bool
  | .leaf ⟨.ret, [some (.lit (.bool true))], []⟩ => true
  | .leaf ⟨.normal, [], []⟩ => true
  | .leaf _ => false
  | .br _ a b => okHit a && okHit b
theorem okHit_run {A F : Type} (B : A → Bool) : ∀ d : DS A F, okHit d = true → d.run B = if d.isT B = true then ⟨.ret, [some (.lit (.bool true))], []⟩ else ⟨.normal, [], []⟩
  | .leaf l, h => by
    unfold okHit at h
    split at h
    · rename_i h1; cases h1; rfl
    · rename_i h1; cases h1; rfl
    · cases h
    · rename_i h1; cases h1
  | .br t a b, h => by
    simp only [okHit, Bool.and_eq_true] at h
    simp only [DS.run, DS.isT]
    rcases Bool.eq_false_or_eq_true (B t) with hb | hb
    · simp only [hb, cond_true]; exact okHit_run B a h.1
    · simp only [hb, cond_false]; exact okHit_run B b h.2
theorem runS_hit {A F : Type} (B : A → Bool) : ∀ ds : List (DS A F), ds.all okHit = true → runS B (ds ++ [.leaf ⟨.ret, [some (.lit (.bool false))], []⟩]) = ⟨.ret, [some (.lit (.bool (ds.any (DS.isT B))))], []⟩
  | [], _ => rfl
  | d :: l, h => by
    simp only [List.all_cons, Bool.and_eq_true] at h
    have ih := runS_hit B l h.2
    have h1 := okHit_run B d h.1
    obtain ⟨e, l2, he⟩ : ∃ e l2, l ++ [DS.leaf ⟨Ex.ret, [some (E.lit (Value.bool false))], []⟩] = e :: l2 := by
      cases l with
      | nil => exact ⟨_, _, rfl⟩
      | cons a b => exact ⟨_, _, rfl⟩
    rw [List.cons_append, he]
    have h2 : runS B (d :: e :: l2) = (match d.run B with
      | ⟨.normal, _, tr⟩ => ⟨(runS B (e :: l2)).x, (runS B (e :: l2)).es, tr ++ (runS B (e :: l2)).tr⟩
      | o => o) := rfl
    rw [h2, ← he, ih, h1]
    cases hi : d.isT B with
    | true => simp [hi]
    | false => simp [hi]
theorem init_at {args : Array Value} {n i : Nat} {v : Value} (h : args[i]? = some v) : (args ++ Array.replicate n undef)[i]? = some v := by
  rw [Array.getElem?_append_left (Array.getElem?_eq_some_iff.1 h).1]
  exact h
/-! One statement: what some slots hold behind it. -/
def strip1 {A F : Type} (ks : List Nat) : DT A F → DS A F
  | .leaf x env tr => .leaf ⟨x, ks.map env.get, tr⟩
  | .br t a b => .br t (strip1 ks a) (strip1 ks b)
theorem strip1_run {A F : Type} (ks : List Nat) (B : A → Bool) (D : DT A F) : (strip1 ks D).run B = ⟨(D.run B).1, ks.map (D.run B).2.1.get, (D.run B).2.2⟩ := by
  induction D with
  | leaf x env tr => rfl
  | br t a b ih1 ih2 =>
    simp only [strip1, DS.run, run_br]
    cases B t
    · simpa using ih2
    · simpa using ih1
/-- The statements of a chain. -/
def sp : Code → List Code
  | .seq a b => a :: sp b
  | c => [c]
def seqs : List Code → Code
  | [] => .skip
  | [c] => c
  | c :: l => .seq c (seqs l)
/-- A statement by its tree: what holds behind it. -/
theorem tree_wp {A F : Type} [DecidableEq A] {r : Rules A F} {P : Program} {V : A → Value} {B : A → Bool} {R : List F → World → Prop} (hS : Sound r P V B R) {c : Code} {env : Env A} {ks : List Nat} {d : DS A F}
    (h : (comp0 r c env).map (fun D => norm (fun _ => none) (strip1 ks D)) = some d) {a : Act} {w : World} {Q : Exit → Act → World → Prop} (hF : Fits r V env a) (hR : R [] w) (hnb : (d.run B).x ≠ .bad)
    (hQ : ∀ a' w' env', Fits r V env' a' → ks.map env'.get = (d.run B).es → R (d.run B).tr w' → Q (d.run B).x.to a' w') : c.wp P Q a w := by
  obtain ⟨D, hD, hd⟩ := Option.map_eq_some_iff.1 h
  subst hd
  rw [norm_run B _ _ (fun _ _ h => by cases h), strip1_run] at hnb hQ
  exact stmt_wp hS hD hnb hF hR (fun a' w' hF' hR' => hQ a' w' _ hF' rfl hR')
theorem Fits.tmp {A F : Type} {r : Rules A F} {V : A → Value} {env : Env A} {a : Act} (h : Fits r V env a) {k : Nat} {e : Option (E A)} {v : Value} (hk : env.get k = e) (he : e.map (E.val V) = some v) : a.tmps[k]? = some v := by
  subst hk
  obtain ⟨e', h1, h2⟩ := Option.map_eq_some_iff.1 he
  rw [h.at_ k e' h1, h2]
/-- A frame: these slots hold these values. -/
structure St (n : Nat) (l : List (Nat × Value)) (a : Act) : Prop where
  df : a.defers = []
  sz : a.tmps.size = n
  at_ : ∀ p ∈ l, a.tmps[p.1]? = some p.2
theorem St.fits {A F : Type} [DecidableEq A] {r : Rules A F} {V : A → Value} {env : Env A} {a : Act} (h : St r.n (env.map fun p => (p.1, p.2.val V)) a) : Fits r V env a :=
  ⟨h.df, h.sz, fun i e he => h.at_ (i, e.val V) (List.mem_map.2 ⟨(i, e), get_mem he, rfl⟩)⟩
def vals {A : Type} (V : A → Value) (ks : List Nat) (es : List (Option (E A))) : List (Nat × Value) := (ks.zip es).filterMap fun p => p.2.map fun e => (p.1, e.val V)
theorem Fits.st {A F : Type} {r : Rules A F} {V : A → Value} {env : Env A} {a : Act} (h : Fits r V env a) (ks : List Nat) : St r.n (vals V ks (ks.map env.get)) a := by
  refine ⟨h.df, h.sz, fun p hp => ?_⟩
  unfold vals at hp
  obtain ⟨q, hq, he⟩ := List.mem_filterMap.1 hp
  obtain ⟨e, h1, h2⟩ := Option.map_eq_some_iff.1 he
  subst h2
  have : ∀ (l : List Nat) (q : Nat × Option (E A)), q ∈ l.zip (l.map env.get) → q.2 = env.get q.1 := by
    intro l
    induction l with
    | nil => intro q hq; simp at hq
    | cons k l ih =>
      intro q hq
      simp only [List.map_cons, List.zip_cons_cons, List.mem_cons] at hq
      rcases hq with rfl | hq
      · rfl
      · exact ih q hq
  have h3 := this ks q hq
  exact h.at_ q.1 e (by rw [← h3, h1])
theorem tree_st {A F : Type} [DecidableEq A] {r : Rules A F} {P : Program} {V : A → Value} {B : A → Bool} {R : List F → World → Prop} (hS : Sound r P V B R) {c : Code} {env : Env A} {ks : List Nat} {d : DS A F}
    (h : (comp0 r c env).map (fun D => norm (fun _ => none) (strip1 ks D)) = some d) {a : Act} {w : World} {Q : Exit → Act → World → Prop} (hA : St r.n (env.map fun p => (p.1, p.2.val V)) a) (hR : R [] w) (hnb : (d.run B).x ≠ .bad)
    (hQ : ∀ a' w', St r.n (vals V ks (d.run B).es) a' → R (d.run B).tr w' → Q (d.run B).x.to a' w') : c.wp P Q a w :=
  tree_wp hS h hA.fits hR hnb (fun a' w' env' hF he hR' => hQ a' w' (by rw [← he]; exact hF.st ks) hR')
/-! A chain all of whose ends keep what was known ahead. -/
section
variable {A F : Type} [DecidableEq A]
def allKeep (env0 : Env A) : DT A F → Bool
  | .leaf .bad _ _ => true
  | .leaf _ env _ => keeps env0 env
  | .br _ a b => allKeep env0 a && allKeep env0 b
theorem allKeep_run {env0 : Env A} {B : A → Bool} : ∀ {D : DT A F}, allKeep env0 D = true → (D.run B).1 ≠ .bad → keeps env0 (D.run B).2.1 = true
  | .leaf x env tr, h, hb => by
    cases x with
    | bad => exact absurd rfl hb
    | normal => exact h
    | exit n => exact h
    | ret => exact h
  | .br t a b, h, hb => by
    simp only [allKeep, Bool.and_eq_true] at h
    rw [run_br] at hb ⊢
    split at hb
    · rename_i hc; rw [if_pos hc]; exact allKeep_run h.1 hb
    · rename_i hc; rw [if_neg hc]; exact allKeep_run h.2 hb
theorem allKeep_top {env0 : Env A} {B : A → Bool} : ∀ {Ds : List (DT A F)}, Ds ≠ [] → Ds.all (allKeep env0) = true → (runTop B Ds).1 ≠ .bad → keeps env0 (runTop B Ds).2.1 = true
  | [], h, _, _ => absurd rfl h
  | [D], _, h, hb => by
    simp only [List.all_cons, List.all_nil, Bool.and_true] at h
    exact allKeep_run h hb
  | D :: D2 :: l, _, h, hb => by
    rw [List.all_cons, Bool.and_eq_true] at h
    have hrt : runTop B (D :: D2 :: l) = (match D.run B with
      | (.normal, _, tr) => ((runTop B (D2 :: l)).1, (runTop B (D2 :: l)).2.1, tr ++ (runTop B (D2 :: l)).2.2)
      | o => o) := rfl
    have h1 := allKeep_run (B := B) h.1
    rw [hrt] at hb ⊢
    obtain ⟨o, ho⟩ : ∃ o, D.run B = o := ⟨_, rfl⟩
    obtain ⟨x, env, tr⟩ := o
    rw [ho] at hb h1 ⊢
    cases x with
    | normal => exact allKeep_top (by simp) h.2 hb
    | exit n => exact h1 hb
    | ret => exact h1 hb
    | bad => exact absurd rfl hb
theorem chain_wp {r : Rules A F} {P : Program} {V : A → Value} {B : A → Bool} {R : List F → World → Prop} (hS : Sound r P V B R) {c : Code} {env0 : Env A} {known : A → Option Bool} {ds : List (DS A F)}
    (h : (top r c env0).map (fun Ds => (Ds.all (allKeep env0) && !Ds.isEmpty, Ds.map (fun d => norm known (strip [] d)))) = some (true, ds)) (hk : ∀ t v, known t = some v → B t = v) (hnb : (runS B ds).x ≠ .bad)
    {a : Act} {w : World} {Q : Exit → Act → World → Prop} (hA : St r.n (env0.map fun p => (p.1, p.2.val V)) a) (hR : R [] w)
    (hQ : ∀ a' w', Fits r V env0 a' → R (runS B ds).tr w' → Q (runS B ds).x.to a' w') : c.wp P Q a w := by
  obtain ⟨Ds, hD, hd⟩ := Option.map_eq_some_iff.1 h
  simp only [Prod.mk.injEq, Bool.and_eq_true, Bool.not_eq_true'] at hd
  obtain ⟨⟨hd1, hd2⟩, hd3⟩ := hd
  have hne : Ds ≠ [] := by intro e; rw [e] at hd2; cases hd2
  have hrun : runS B ds = lfOf [] (runTop B Ds).1 (runTop B Ds).2.1 (runTop B Ds).2.2 := by
    rw [← stripTop, ← norm_list B known hk (Ds.map (strip [])), List.map_map, ← hd3]
    rfl
  have hx : (runS B ds).x = (runTop B Ds).1 := by rw [hrun]; cases (runTop B Ds).1 <;> rfl
  have ht : (runS B ds).tr = (runTop B Ds).2.2 := by rw [hrun]; cases (runTop B Ds).1 <;> rfl
  rw [hx] at hnb
  refine top_wp hS hD hnb hA.fits hR (fun a' w' h1 h2 => ?_)
  have h3 := hQ a' w' (keeps_fits (allKeep_top hne hd1 hnb) h1) (by rw [ht]; exact h2)
  rw [hx] at h3
  exact h3
end
section
variable {A F : Type}
theorem Fits.to_st {r : Rules A F} {V : A → Value} {env : Env A} {a : Act} (h : Fits r V env a) {l : List (Nat × Value)} (hl : ∀ p ∈ l, (env.get p.1).map (E.val V) = some p.2) : St r.n l a :=
  ⟨h.df, h.sz, fun p hp => h.tmp rfl (hl p hp)⟩
end
end Go.Proofs.YtonmnpmklkbioaaDoor.Sy
/- The engine's chains, further: the last statements as one; what some slots hold where a chain ends. No condition of its own. -/
namespace Go.Proofs.YtonmnpmklkbioaaDoor.Sy
open Go.RowKit
set_option linter.unusedVariables false
set_option linter.unusedSimpArgs false
section
variable {A F : Type} [DecidableEq A] (r : Rules A F)
/-- The first k statements one by one, what is left as one. -/
def topK : Nat → Code → Env A → Option (List (DT A F))
  | k + 1, .seq a b, env0 => (match comp0 r a env0, topK k b env0 with
    | some D, some Ds => bif leavesOk env0 D then some (D :: Ds) else none
    | _, _ => none)
  | _, c, env0 => single r c env0
end
section
variable {A F : Type} {r : Rules A F}
theorem single_ne {c : Code} {env0 : Env A} {Ds : List (DT A F)} (h : single r c env0 = some Ds) : Ds ≠ [] := by
  unfold single at h
  split at h
  · cases h; simp
  · cases h
end
section
variable {A F : Type} [DecidableEq A] {r : Rules A F}
theorem topK_ne : ∀ {k : Nat} {c : Code} {env0 : Env A} {Ds : List (DT A F)}, topK r k c env0 = some Ds → Ds ≠ [] := by
  intro k c env0 Ds h
  unfold topK at h
  split at h
  · split at h
    · rename_i D Ds' _ _
      cases hl : leavesOk env0 D with
      | false => rw [hl] at h; cases h
      | true => rw [hl] at h; cases h; simp
    · cases h
  · exact single_ne h
end
section
variable {A F : Type} [DecidableEq A] {r : Rules A F} {P : Program} {V : A → Value} {B : A → Bool} {R : List F → World → Prop}
theorem topK_wp (hS : Sound r P V B R) : ∀ {k : Nat} {c : Code} {env0 : Env A} {Ds : List (DT A F)}, topK r k c env0 = some Ds → (runTop B Ds).1 ≠ .bad → ∀ {a : Act} {w : World} {Q : Exit → Act → World → Prop}, Fits r V env0 a → R [] w →
    (∀ a' w', Fits r V (runTop B Ds).2.1 a' → R (runTop B Ds).2.2 w' → Q (runTop B Ds).1.to a' w') → c.wp P Q a w := by
  intro k
  induction k with
  | zero =>
    intro c env0 Ds h hnb a w Q hF hR hQ
    have h' : single r c env0 = some Ds := by unfold topK at h; exact h
    exact single_wp hS h' hnb hF hR hQ
  | succ k ih =>
    intro c env0 Ds h hnb a w Q hF hR hQ
    cases c with
    | seq x y =>
      simp only [topK] at h
      split at h
      · rename_i D Ds' h1 h2
        cases hl : leavesOk env0 D with
        | false => rw [hl] at h; cases h
        | true =>
          rw [hl] at h
          simp only [cond_true] at h
          cases h
          obtain ⟨D2, l, rfl⟩ : ∃ D2 l, Ds' = D2 :: l := by
            cases hd : Ds' with
            | nil => exact absurd hd (topK_ne h2)
            | cons D2 l => exact ⟨D2, l, rfl⟩
          obtain ⟨o, ho⟩ : ∃ o, D.run B = o := ⟨_, rfl⟩
          obtain ⟨x', env', tr'⟩ := o
          have hrt : runTop B (D :: D2 :: l) = (match D.run B with
            | (.normal, _, tr) => ((runTop B (D2 :: l)).1, (runTop B (D2 :: l)).2.1, tr ++ (runTop B (D2 :: l)).2.2)
            | o => o) := rfl
          rw [hrt, ho] at hQ hnb
          refine wp_seq (stmt_wp hS h1 (by rw [ho]; cases x' <;> first | exact hnb | (intro e; cases e)) hF hR ?_)
          intro a' w' hF' hR'
          rw [ho] at hF' hR' ⊢
          cases x' with
          | normal =>
            obtain ⟨rfl, hk⟩ := leaves_normal (B := B) hl env' tr' ho
            exact ih h2 hnb (keeps_fits hk hF') hR' (fun a'' w'' h3 h4 => hQ a'' w'' h3 h4)
          | exit n => exact hQ a' w' hF' hR'
          | ret => exact hQ a' w' hF' hR'
          | bad => exact absurd rfl hnb
      · cases h
    | skip => exact single_wp hS (by unfold topK at h; exact h) hnb hF hR hQ
    | region id ops draw => exact single_wp hS (by unfold topK at h; exact h) hnb hF hR hQ
    | cond c x y => exact single_wp hS (by unfold topK at h; exact h) hnb hF hR hQ
    | block id c => exact single_wp hS (by unfold topK at h; exact h) hnb hF hR hQ
    | loop c => exact single_wp hS (by unfold topK at h; exact h) hnb hF hR hQ
    | rangeFunc f p x y => exact single_wp hS (by unfold topK at h; exact h) hnb hF hR hQ
    | exit id => exact single_wp hS (by unfold topK at h; exact h) hnb hF hR hQ
    | scope c => exact single_wp hS (by unfold topK at h; exact h) hnb hF hR hQ
    | label l => exact single_wp hS (by unfold topK at h; exact h) hnb hF hR hQ
    | goto l => exact single_wp hS (by unfold topK at h; exact h) hnb hF hR hQ
    | ret => exact single_wp hS (by unfold topK at h; exact h) hnb hF hR hQ
    | refuse s => exact single_wp hS (by unfold topK at h; exact h) hnb hF hR hQ
end
section
variable {A F : Type}
/-- The trees of a chain: of the last one each end's slots. -/
def strips (ks : List Nat) : List (DT A F) → List (DS A F)
  | [] => []
  | [D] => [strip1 ks D]
  | D :: Ds => strip ks D :: strips ks Ds
theorem strips_run (ks : List Nat) (B : A → Bool) : ∀ Ds : List (DT A F), Ds ≠ [] → runS B (strips ks Ds) = ⟨(runTop B Ds).1, ks.map (runTop B Ds).2.1.get, (runTop B Ds).2.2⟩
  | [], h => absurd rfl h
  | [D], _ => strip1_run ks B D
  | D :: D2 :: l, _ => by
    have ih := strips_run ks B (D2 :: l) (by simp)
    obtain ⟨e, l2, he⟩ : ∃ e l2, strips ks (D2 :: l) = e :: l2 := by
      cases l with
      | nil => exact ⟨_, _, rfl⟩
      | cons a b => exact ⟨_, _, rfl⟩
    have h0 : strips ks (D :: D2 :: l) = strip ks D :: strips ks (D2 :: l) := rfl
    have h1 : runS B (strip ks D :: e :: l2) = (match (strip ks D).run B with
      | ⟨.normal, _, tr⟩ => ⟨(runS B (e :: l2)).x, (runS B (e :: l2)).es, tr ++ (runS B (e :: l2)).tr⟩
      | o => o) := rfl
    have h2 : runTop B (D :: D2 :: l) = (match D.run B with
      | (.normal, _, tr) => ((runTop B (D2 :: l)).1, (runTop B (D2 :: l)).2.1, tr ++ (runTop B (D2 :: l)).2.2)
      | o => o) := rfl
    rw [h0, he, h1, ← he, ih, strip_run, h2]
    obtain ⟨x, env, tr⟩ := D.run B
    cases x <;> rfl
end
section
variable {A F : Type} [DecidableEq A]
theorem chain2_wp {r : Rules A F} {P : Program} {V : A → Value} {B : A → Bool} {R : List F → World → Prop} (hS : Sound r P V B R) {c : Code} {k : Nat} {env0 env1 : Env A} {ks : List Nat} {known : A → Option Bool} {ds : List (DS A F)}
    (h : (topK r k c env0).map (fun Ds => (Ds.all (allKeep env1) && !Ds.isEmpty, (strips ks Ds).map (norm known))) = some (true, ds)) (hk : ∀ t v, known t = some v → B t = v) (hnb : (runS B ds).x ≠ .bad)
    {a : Act} {w : World} {Q : Exit → Act → World → Prop} (hA : St r.n (env0.map fun p => (p.1, p.2.val V)) a) (hR : R [] w)
    (hQ : ∀ a' w' env', Fits r V env1 a' → Fits r V env' a' → ks.map env'.get = (runS B ds).es → R (runS B ds).tr w' → Q (runS B ds).x.to a' w') : c.wp P Q a w := by
  obtain ⟨Ds, hD, hd⟩ := Option.map_eq_some_iff.1 h
  simp only [Prod.mk.injEq, Bool.and_eq_true, Bool.not_eq_true'] at hd
  obtain ⟨⟨hd1, hd2⟩, hd3⟩ := hd
  have hne : Ds ≠ [] := by intro e; rw [e] at hd2; cases hd2
  have hrun : runS B ds = ⟨(runTop B Ds).1, ks.map (runTop B Ds).2.1.get, (runTop B Ds).2.2⟩ := by
    rw [← strips_run ks B Ds hne, ← hd3, norm_list B known hk]
  have hx : (runS B ds).x = (runTop B Ds).1 := by rw [hrun]
  have ht : (runS B ds).tr = (runTop B Ds).2.2 := by rw [hrun]
  have he : (runS B ds).es = ks.map (runTop B Ds).2.1.get := by rw [hrun]
  rw [hx] at hnb
  refine topK_wp hS hD hnb hA.fits hR (fun a' w' h1 h2 => ?_)
  have h3 := hQ a' w' _ (keeps_fits (allKeep_top hne hd1 hnb) h1) h1 he.symm (by rw [ht]; exact h2)
  rw [hx] at h3
  exact h3
end
end Go.Proofs.YtonmnpmklkbioaaDoor.Sy
/- What single operations do (names' code), for the walk by reckoning. -/
namespace Go.Proofs.YtonmnpmklkbioaaDoor.Sy
open Go.RowKit Go.Proofs.YtonmnpmklkbioaaDoorW.PrintWords
set_option linter.unusedVariables false
set_option linter.unusedSimpArgs false
section
variable {a : Act} {w : World} {next : Act → World → Prop} {Q : Exit → Act → World → Prop} {dst : Option Nat} {ty : TypeId} {pos : String} {af : Array Edge} {gd : Option (Nat × Bool)} {x y : Operand}
theorem s_eql {n c : Int} (h1 : a.eval x = .int .i32 n) (h2 : a.eval y = .int .i32 c) (h : next (a.put dst (.bool (n == c))) w) : Oper.wp Tryd.prog ⟨dst, .binOp .eql 21 x y 21, ty, pos, af, gd⟩ a w next Q := by
  unfold Oper.wp execOp
  dsimp only
  rw [h1, h2]
  go_simp
  exact h
theorem s_leq {n c : Int} (h1 : a.eval x = .int .i32 n) (h2 : a.eval y = .int .i32 c) (h : next (a.put dst (.bool (decide (n ≤ c)))) w) : Oper.wp Tryd.prog ⟨dst, .binOp .leq 21 x y 21, ty, pos, af, gd⟩ a w next Q := by
  unfold Oper.wp execOp
  dsimp only
  rw [h1, h2]
  go_simp
  exact h
theorem s_geq {n c : Int} (h1 : a.eval x = .int .i32 n) (h2 : a.eval y = .int .i32 c) (h : next (a.put dst (.bool (decide (n ≥ c)))) w) : Oper.wp Tryd.prog ⟨dst, .binOp .geq 21 x y 21, ty, pos, af, gd⟩ a w next Q := by
  unfold Oper.wp execOp
  dsimp only
  rw [h1, h2]
  go_simp
  exact h
theorem s_gtr {n c : Int} (h1 : a.eval x = .int .i32 n) (h2 : a.eval y = .int .i32 c) (h : next (a.put dst (.bool (decide (n > c)))) w) : Oper.wp Tryd.prog ⟨dst, .binOp .gtr 21 x y 21, ty, pos, af, gd⟩ a w next Q := by
  unfold Oper.wp execOp
  dsimp only
  rw [h1, h2]
  go_simp
  exact h
theorem s_add {n c : Int} (h1 : a.eval x = .int .i32 n) (h2 : a.eval y = .int .i32 c) (h : next (a.put dst (.int .i32 (IntKind.i32.wrap (n + c)))) w) : Oper.wp Tryd.prog ⟨dst, .binOp .add 21 x y 21, ty, pos, af, gd⟩ a w next Q := by
  unfold Oper.wp execOp
  dsimp only
  rw [h1, h2]
  go_simp
  exact h
theorem s_sub {n c : Int} (h1 : a.eval x = .int .i32 n) (h2 : a.eval y = .int .i32 c) (h : next (a.put dst (.int .i32 (IntKind.i32.wrap (n - c)))) w) : Oper.wp Tryd.prog ⟨dst, .binOp .sub 21 x y 21, ty, pos, af, gd⟩ a w next Q := by
  unfold Oper.wp execOp
  dsimp only
  rw [h1, h2]
  go_simp
  exact h
theorem s_loadm {p : Addr} {m : Int} (h1 : a.eval x = .pointer (some p)) (hv : w.cell? p = some (.int .u64 m)) (h : next (a.put dst (.int .u64 m)) w) : Oper.wp Tryd.prog ⟨dst, .load 43 x, ty, pos, af, gd⟩ a w next Q := by
  unfold Oper.wp execOp
  dsimp only
  rw [h1]
  go_simp
  exact h
theorem s_has {m b : Int} {ats : Array TypeId} (h1 : a.eval x = .int .u64 m) (h2 : a.eval y = .int .u64 b) (h : ∀ w', Drawn0 w w' → next (a.put dst (.bool ((Go.bits .and .u64 m b) != 0))) w') : Oper.wp Tryd.prog ⟨dst, .call { callee := .value (.func 56), args := #[x, y], argTypes := ats }, ty, pos, af, gd⟩ a w next Q := by
  unfold Oper.wp execOp
  dsimp only
  simp only [resolve, invoke, List.map_toArray, List.map_cons, List.map_nil, h1, h2]
  go_simp
  go_at_call 56
  refine (PN.encoder_MultiEncoder_Has.calls m b _ w rfl).mono ?_
  rintro e w' ⟨rfl, hd⟩
  exact h w' hd
end
end Go.Proofs.YtonmnpmklkbioaaDoor.Sy
/- The shelf of contracts laid at this program. -/
namespace Go.Proofs.YtonmnpmklkbioaaDoor.Laid
open Go.Shelf Go.RowKit
set_option maxRecDepth 100000
def L_n197_ren : Go.Shelf.Ren := ⟨fun | 197 => 57 | 260 => 75 | n => n, fun | 46 => 22 | 105 => 65 | 119 => 103 | 138 => 105 | 139 => 106 | n => n, fun | 3 => 0 | 4 => 1 | n => n⟩
theorem L_n197 : Lays.n197 Tryd.prog L_n197_ren := {
  mixed := by kernel_rfl
  f197 := by kernel_rfl
  f260 := by kernel_rfl
  t0 := by kernel_rfl
  a0 := fun _ => by kernel_rfl
  z0 := fun _ => by kernel_rfl
  v0 := fun _ => by kernel_rfl
  t3 := by kernel_rfl
  a3 := fun _ => by kernel_rfl
  z3 := fun _ => by kernel_rfl
  v3 := fun _ => by kernel_rfl
  t4 := by kernel_rfl
  a4 := fun _ => by kernel_rfl
  z4 := fun _ => by kernel_rfl
  v4 := fun _ => by kernel_rfl
  t5 := by kernel_rfl
  a5 := fun _ => by kernel_rfl
  z5 := fun _ => by kernel_rfl
  v5 := fun _ => by kernel_rfl
  t9 := by kernel_rfl
  a9 := fun _ => by kernel_rfl
  z9 := fun _ => by kernel_rfl
  v9 := fun _ => by kernel_rfl
  t21 := by kernel_rfl
  a21 := fun _ => by kernel_rfl
  z21 := fun _ => by kernel_rfl
  v21 := fun _ => by kernel_rfl
  t46 := by kernel_rfl
  a46 := fun _ => by kernel_rfl
  z46 := fun _ => by kernel_rfl
  v46 := fun _ => by kernel_rfl
  t105 := by kernel_rfl
  a105 := fun _ => by kernel_rfl
  z105 := fun _ => by kernel_rfl
  v105 := fun _ => by kernel_rfl
  t119 := by kernel_rfl
  a119 := fun _ => by kernel_rfl
  z119 := fun _ => by kernel_rfl
  t138 := by kernel_rfl
  a138 := fun _ => by kernel_rfl
  z138 := fun _ => by kernel_rfl
  v138 := fun _ => by kernel_rfl
  t139 := by kernel_rfl
  a139 := fun _ => by kernel_rfl
  z139 := fun _ => by kernel_rfl
  v139 := fun _ => by kernel_rfl
  g3 := by kernel_rfl
  g4 := by kernel_rfl }
def L_n271_ren : Go.Shelf.Ren := ⟨fun | 120 => 76 | 197 => 57 | 260 => 75 | 271 => 58 | n => n, fun | 46 => 22 | 105 => 65 | 119 => 103 | 138 => 105 | 139 => 106 | n => n, fun | 3 => 0 | 4 => 1 | n => n⟩
theorem L_n271 : Lays.n271 Tryd.prog L_n271_ren := {
  mixed := by kernel_rfl
  f120 := by kernel_rfl
  f197 := by kernel_rfl
  f260 := by kernel_rfl
  f271 := by kernel_rfl
  t0 := by kernel_rfl
  a0 := fun _ => by kernel_rfl
  z0 := fun _ => by kernel_rfl
  v0 := fun _ => by kernel_rfl
  t3 := by kernel_rfl
  a3 := fun _ => by kernel_rfl
  z3 := fun _ => by kernel_rfl
  v3 := fun _ => by kernel_rfl
  t4 := by kernel_rfl
  a4 := fun _ => by kernel_rfl
  z4 := fun _ => by kernel_rfl
  v4 := fun _ => by kernel_rfl
  t5 := by kernel_rfl
  a5 := fun _ => by kernel_rfl
  z5 := fun _ => by kernel_rfl
  v5 := fun _ => by kernel_rfl
  t9 := by kernel_rfl
  a9 := fun _ => by kernel_rfl
  z9 := fun _ => by kernel_rfl
  v9 := fun _ => by kernel_rfl
  t21 := by kernel_rfl
  a21 := fun _ => by kernel_rfl
  z21 := fun _ => by kernel_rfl
  v21 := fun _ => by kernel_rfl
  t46 := by kernel_rfl
  a46 := fun _ => by kernel_rfl
  z46 := fun _ => by kernel_rfl
  v46 := fun _ => by kernel_rfl
  t105 := by kernel_rfl
  a105 := fun _ => by kernel_rfl
  z105 := fun _ => by kernel_rfl
  v105 := fun _ => by kernel_rfl
  t119 := by kernel_rfl
  a119 := fun _ => by kernel_rfl
  z119 := fun _ => by kernel_rfl
  t138 := by kernel_rfl
  a138 := fun _ => by kernel_rfl
  z138 := fun _ => by kernel_rfl
  v138 := fun _ => by kernel_rfl
  t139 := by kernel_rfl
  a139 := fun _ => by kernel_rfl
  z139 := fun _ => by kernel_rfl
  v139 := fun _ => by kernel_rfl
  g3 := by kernel_rfl
  g4 := by kernel_rfl }
def L_n15_ren : Go.Shelf.Ren := ⟨fun | 15 => 59 | 20 => 77 | n => n, fun | 23 => 54 | n => n, fun n => n⟩
theorem L_n15 : LaysGw.n15 Tryd.prog L_n15_ren := {
  mixed := by kernel_rfl
  f15 := by kernel_rfl
  f20 := by kernel_rfl
  t0 := by kernel_rfl
  a0 := fun _ => by kernel_rfl
  z0 := fun _ => by kernel_rfl
  v0 := fun _ => by kernel_rfl
  i0 := by kernel_rfl
  t3 := by kernel_rfl
  a3 := fun _ => by kernel_rfl
  z3 := fun _ => by kernel_rfl
  v3 := fun _ => by kernel_rfl
  i3 := by kernel_rfl
  t4 := by kernel_rfl
  a4 := fun _ => by kernel_rfl
  z4 := fun _ => by kernel_rfl
  v4 := fun _ => by kernel_rfl
  i4 := by kernel_rfl
  t9 := by kernel_rfl
  a9 := fun _ => by kernel_rfl
  z9 := fun _ => by kernel_rfl
  v9 := fun _ => by kernel_rfl
  i9 := by kernel_rfl
  t21 := by kernel_rfl
  a21 := fun _ => by kernel_rfl
  z21 := fun _ => by kernel_rfl
  v21 := fun _ => by kernel_rfl
  i21 := by kernel_rfl
  t23 := by kernel_rfl
  a23 := fun _ => by kernel_rfl
  z23 := fun _ => by kernel_rfl
  v23 := fun _ => by kernel_rfl
  i23 := by kernel_rfl }
def L_n178_ren : Go.Shelf.Ren := ⟨fun | 178 => 62 | 181 => 85 | 184 => 86 | 251 => 79 | 252 => 78 | 290 => 87 | 324 => 95 | n => n, fun | 37 => 23 | 75 => 74 | 91 => 69 | 93 => 71 | 130 => 79 | 131 => 88 | n => n, fun | 14 => 2 | n => n⟩
theorem L_n178 : LaysM.n178 Tryd.prog L_n178_ren := {
  mixed := by kernel_rfl
  f178 := by kernel_rfl
  f181 := by kernel_rfl
  f184 := by kernel_rfl
  f251 := by kernel_rfl
  f252 := by kernel_rfl
  f290 := by kernel_rfl
  f324 := by kernel_rfl
  t0 := by kernel_rfl
  a0 := fun _ => by kernel_rfl
  z0 := fun _ => by kernel_rfl
  v0 := fun _ => by kernel_rfl
  t3 := by kernel_rfl
  a3 := fun _ => by kernel_rfl
  z3 := fun _ => by kernel_rfl
  v3 := fun _ => by kernel_rfl
  t4 := by kernel_rfl
  a4 := fun _ => by kernel_rfl
  z4 := fun _ => by kernel_rfl
  v4 := fun _ => by kernel_rfl
  t9 := by kernel_rfl
  a9 := fun _ => by kernel_rfl
  z9 := fun _ => by kernel_rfl
  v9 := fun _ => by kernel_rfl
  t20 := by kernel_rfl
  a20 := fun _ => by kernel_rfl
  z20 := fun _ => by kernel_rfl
  v20 := fun _ => by kernel_rfl
  t37 := by kernel_rfl
  a37 := fun _ => by kernel_rfl
  z37 := fun _ => by kernel_rfl
  v37 := fun _ => by kernel_rfl
  t75 := by kernel_rfl
  a75 := fun _ => by kernel_rfl
  z75 := fun _ => by kernel_rfl
  v75 := fun _ => by kernel_rfl
  t91 := by kernel_rfl
  a91 := fun _ => by kernel_rfl
  z91 := fun _ => by kernel_rfl
  v91 := fun _ => by kernel_rfl
  t93 := by kernel_rfl
  a93 := fun _ => by kernel_rfl
  z93 := fun _ => by kernel_rfl
  v93 := fun _ => by kernel_rfl
  t130 := by kernel_rfl
  a130 := fun _ => by kernel_rfl
  z130 := fun _ => by kernel_rfl
  v130 := fun _ => by kernel_rfl
  t131 := by kernel_rfl
  a131 := fun _ => by kernel_rfl
  z131 := fun _ => by kernel_rfl
  v131 := fun _ => by kernel_rfl
  g14 := by kernel_rfl
  t5 := by kernel_rfl
  a5 := fun _ => by kernel_rfl
  z5 := fun _ => by kernel_rfl
  v5 := fun _ => by kernel_rfl
  t80 := by kernel_rfl
  a80 := fun _ => by kernel_rfl
  z80 := fun _ => by kernel_rfl
  v80 := fun _ => by kernel_rfl
  i0 := by kernel_rfl
  i3 := by kernel_rfl
  i4 := by kernel_rfl
  i5 := by kernel_rfl
  i9 := by kernel_rfl
  i20 := by kernel_rfl
  i37 := by kernel_rfl
  i75 := by kernel_rfl
  i80 := by kernel_rfl
  i91 := by kernel_rfl
  i93 := by kernel_rfl
  i130 := by kernel_rfl
  i131 := by kernel_rfl
  m14 := by kernel_rfl }
def L_n180_ren : Go.Shelf.Ren := ⟨fun | 180 => 138 | 181 => 85 | 184 => 86 | 251 => 79 | 252 => 78 | 290 => 87 | 324 => 95 | n => n, fun | 37 => 23 | 75 => 74 | 91 => 69 | 93 => 71 | 130 => 79 | 131 => 88 | n => n, fun | 14 => 2 | n => n⟩
theorem L_n180 : LaysM.n180 Tryd.prog L_n180_ren := {
  mixed := by kernel_rfl
  f180 := by kernel_rfl
  f181 := by kernel_rfl
  f184 := by kernel_rfl
  f251 := by kernel_rfl
  f252 := by kernel_rfl
  f290 := by kernel_rfl
  f324 := by kernel_rfl
  t0 := by kernel_rfl
  a0 := fun _ => by kernel_rfl
  z0 := fun _ => by kernel_rfl
  v0 := fun _ => by kernel_rfl
  t3 := by kernel_rfl
  a3 := fun _ => by kernel_rfl
  z3 := fun _ => by kernel_rfl
  v3 := fun _ => by kernel_rfl
  t4 := by kernel_rfl
  a4 := fun _ => by kernel_rfl
  z4 := fun _ => by kernel_rfl
  v4 := fun _ => by kernel_rfl
  t20 := by kernel_rfl
  a20 := fun _ => by kernel_rfl
  z20 := fun _ => by kernel_rfl
  v20 := fun _ => by kernel_rfl
  t37 := by kernel_rfl
  a37 := fun _ => by kernel_rfl
  z37 := fun _ => by kernel_rfl
  v37 := fun _ => by kernel_rfl
  t75 := by kernel_rfl
  a75 := fun _ => by kernel_rfl
  z75 := fun _ => by kernel_rfl
  v75 := fun _ => by kernel_rfl
  t91 := by kernel_rfl
  a91 := fun _ => by kernel_rfl
  z91 := fun _ => by kernel_rfl
  v91 := fun _ => by kernel_rfl
  t93 := by kernel_rfl
  a93 := fun _ => by kernel_rfl
  z93 := fun _ => by kernel_rfl
  v93 := fun _ => by kernel_rfl
  t130 := by kernel_rfl
  a130 := fun _ => by kernel_rfl
  z130 := fun _ => by kernel_rfl
  v130 := fun _ => by kernel_rfl
  t131 := by kernel_rfl
  a131 := fun _ => by kernel_rfl
  z131 := fun _ => by kernel_rfl
  v131 := fun _ => by kernel_rfl
  g14 := by kernel_rfl
  t5 := by kernel_rfl
  a5 := fun _ => by kernel_rfl
  z5 := fun _ => by kernel_rfl
  v5 := fun _ => by kernel_rfl
  t9 := by kernel_rfl
  a9 := fun _ => by kernel_rfl
  z9 := fun _ => by kernel_rfl
  v9 := fun _ => by kernel_rfl
  t80 := by kernel_rfl
  a80 := fun _ => by kernel_rfl
  z80 := fun _ => by kernel_rfl
  v80 := fun _ => by kernel_rfl
  i0 := by kernel_rfl
  i3 := by kernel_rfl
  i4 := by kernel_rfl
  i5 := by kernel_rfl
  i9 := by kernel_rfl
  i20 := by kernel_rfl
  i37 := by kernel_rfl
  i75 := by kernel_rfl
  i80 := by kernel_rfl
  i91 := by kernel_rfl
  i93 := by kernel_rfl
  i130 := by kernel_rfl
  i131 := by kernel_rfl
  m14 := by kernel_rfl }
def L_n182_ren : Go.Shelf.Ren := ⟨fun | 182 => 65 | n => n, fun | 37 => 23 | 91 => 69 | 93 => 71 | 130 => 79 | n => n, fun n => n⟩
theorem L_n182 : LaysM.n182 Tryd.prog L_n182_ren := {
  mixed := by kernel_rfl
  f182 := by kernel_rfl
  t0 := by kernel_rfl
  a0 := fun _ => by kernel_rfl
  z0 := fun _ => by kernel_rfl
  v0 := fun _ => by kernel_rfl
  t3 := by kernel_rfl
  a3 := fun _ => by kernel_rfl
  z3 := fun _ => by kernel_rfl
  v3 := fun _ => by kernel_rfl
  t4 := by kernel_rfl
  a4 := fun _ => by kernel_rfl
  z4 := fun _ => by kernel_rfl
  v4 := fun _ => by kernel_rfl
  t9 := by kernel_rfl
  a9 := fun _ => by kernel_rfl
  z9 := fun _ => by kernel_rfl
  v9 := fun _ => by kernel_rfl
  t37 := by kernel_rfl
  a37 := fun _ => by kernel_rfl
  z37 := fun _ => by kernel_rfl
  v37 := fun _ => by kernel_rfl
  t93 := by kernel_rfl
  a93 := fun _ => by kernel_rfl
  z93 := fun _ => by kernel_rfl
  v93 := fun _ => by kernel_rfl
  t130 := by kernel_rfl
  a130 := fun _ => by kernel_rfl
  z130 := fun _ => by kernel_rfl
  v130 := fun _ => by kernel_rfl
  t5 := by kernel_rfl
  a5 := fun _ => by kernel_rfl
  z5 := fun _ => by kernel_rfl
  v5 := fun _ => by kernel_rfl
  t91 := by kernel_rfl
  a91 := fun _ => by kernel_rfl
  z91 := fun _ => by kernel_rfl
  v91 := fun _ => by kernel_rfl
  i0 := by kernel_rfl
  i3 := by kernel_rfl
  i4 := by kernel_rfl
  i5 := by kernel_rfl
  i9 := by kernel_rfl
  i37 := by kernel_rfl
  i91 := by kernel_rfl
  i93 := by kernel_rfl
  i130 := by kernel_rfl }
def L_n252_ren : Go.Shelf.Ren := ⟨fun | 181 => 85 | 184 => 86 | 251 => 79 | 252 => 78 | 290 => 87 | 324 => 95 | n => n, fun | 37 => 23 | 75 => 74 | 91 => 69 | 93 => 71 | 130 => 79 | 131 => 88 | n => n, fun | 14 => 2 | n => n⟩
theorem L_n252 : LaysM.n252 Tryd.prog L_n252_ren := {
  mixed := by kernel_rfl
  f181 := by kernel_rfl
  f184 := by kernel_rfl
  f251 := by kernel_rfl
  f252 := by kernel_rfl
  f290 := by kernel_rfl
  f324 := by kernel_rfl
  t0 := by kernel_rfl
  a0 := fun _ => by kernel_rfl
  z0 := fun _ => by kernel_rfl
  v0 := fun _ => by kernel_rfl
  t3 := by kernel_rfl
  a3 := fun _ => by kernel_rfl
  z3 := fun _ => by kernel_rfl
  v3 := fun _ => by kernel_rfl
  t4 := by kernel_rfl
  a4 := fun _ => by kernel_rfl
  z4 := fun _ => by kernel_rfl
  v4 := fun _ => by kernel_rfl
  t20 := by kernel_rfl
  a20 := fun _ => by kernel_rfl
  z20 := fun _ => by kernel_rfl
  v20 := fun _ => by kernel_rfl
  t37 := by kernel_rfl
  a37 := fun _ => by kernel_rfl
  z37 := fun _ => by kernel_rfl
  v37 := fun _ => by kernel_rfl
  t75 := by kernel_rfl
  a75 := fun _ => by kernel_rfl
  z75 := fun _ => by kernel_rfl
  v75 := fun _ => by kernel_rfl
  t91 := by kernel_rfl
  a91 := fun _ => by kernel_rfl
  z91 := fun _ => by kernel_rfl
  v91 := fun _ => by kernel_rfl
  t93 := by kernel_rfl
  a93 := fun _ => by kernel_rfl
  z93 := fun _ => by kernel_rfl
  v93 := fun _ => by kernel_rfl
  t130 := by kernel_rfl
  a130 := fun _ => by kernel_rfl
  z130 := fun _ => by kernel_rfl
  v130 := fun _ => by kernel_rfl
  t131 := by kernel_rfl
  a131 := fun _ => by kernel_rfl
  z131 := fun _ => by kernel_rfl
  v131 := fun _ => by kernel_rfl
  g14 := by kernel_rfl
  t5 := by kernel_rfl
  a5 := fun _ => by kernel_rfl
  z5 := fun _ => by kernel_rfl
  v5 := fun _ => by kernel_rfl
  t9 := by kernel_rfl
  a9 := fun _ => by kernel_rfl
  z9 := fun _ => by kernel_rfl
  v9 := fun _ => by kernel_rfl
  t80 := by kernel_rfl
  a80 := fun _ => by kernel_rfl
  z80 := fun _ => by kernel_rfl
  v80 := fun _ => by kernel_rfl
  i0 := by kernel_rfl
  i3 := by kernel_rfl
  i4 := by kernel_rfl
  i5 := by kernel_rfl
  i9 := by kernel_rfl
  i20 := by kernel_rfl
  i37 := by kernel_rfl
  i75 := by kernel_rfl
  i80 := by kernel_rfl
  i91 := by kernel_rfl
  i93 := by kernel_rfl
  i130 := by kernel_rfl
  i131 := by kernel_rfl
  m14 := by kernel_rfl }
def L_n5_ren : Go.Shelf.Ren := ⟨fun | 5 => 63 | 7 => 80 | 8 => 79 | 9 => 78 | 10 => 81 | 11 => 85 | 12 => 86 | 13 => 87 | 14 => 88 | 15 => 95 | n => n, fun | 22 => 23 | 24 => 69 | 26 => 71 | 28 => 74 | 31 => 80 | 34 => 79 | 35 => 90 | 37 => 88 | 43 => 22 | n => n, fun | 0 => 2 | n => n⟩
theorem L_n5 : LaysWr.n5 Tryd.prog L_n5_ren := {
  mixed := by kernel_rfl
  f5 := by kernel_rfl
  f7 := by kernel_rfl
  f8 := by kernel_rfl
  f9 := by kernel_rfl
  f10 := by kernel_rfl
  f11 := by kernel_rfl
  f12 := by kernel_rfl
  f13 := by kernel_rfl
  f14 := by kernel_rfl
  f15 := by kernel_rfl
  t0 := by kernel_rfl
  a0 := fun _ => by kernel_rfl
  z0 := fun _ => by kernel_rfl
  v0 := fun _ => by kernel_rfl
  i0 := by kernel_rfl
  t3 := by kernel_rfl
  a3 := fun _ => by kernel_rfl
  z3 := fun _ => by kernel_rfl
  v3 := fun _ => by kernel_rfl
  i3 := by kernel_rfl
  t4 := by kernel_rfl
  a4 := fun _ => by kernel_rfl
  z4 := fun _ => by kernel_rfl
  v4 := fun _ => by kernel_rfl
  i4 := by kernel_rfl
  t5 := by kernel_rfl
  a5 := fun _ => by kernel_rfl
  z5 := fun _ => by kernel_rfl
  v5 := fun _ => by kernel_rfl
  i5 := by kernel_rfl
  t9 := by kernel_rfl
  a9 := fun _ => by kernel_rfl
  z9 := fun _ => by kernel_rfl
  v9 := fun _ => by kernel_rfl
  i9 := by kernel_rfl
  t20 := by kernel_rfl
  a20 := fun _ => by kernel_rfl
  z20 := fun _ => by kernel_rfl
  v20 := fun _ => by kernel_rfl
  i20 := by kernel_rfl
  t21 := by kernel_rfl
  a21 := fun _ => by kernel_rfl
  z21 := fun _ => by kernel_rfl
  v21 := fun _ => by kernel_rfl
  i21 := by kernel_rfl
  t22 := by kernel_rfl
  a22 := fun _ => by kernel_rfl
  z22 := fun _ => by kernel_rfl
  v22 := fun _ => by kernel_rfl
  i22 := by kernel_rfl
  t24 := by kernel_rfl
  a24 := fun _ => by kernel_rfl
  z24 := fun _ => by kernel_rfl
  v24 := fun _ => by kernel_rfl
  i24 := by kernel_rfl
  t26 := by kernel_rfl
  a26 := fun _ => by kernel_rfl
  z26 := fun _ => by kernel_rfl
  v26 := fun _ => by kernel_rfl
  i26 := by kernel_rfl
  t28 := by kernel_rfl
  a28 := fun _ => by kernel_rfl
  z28 := fun _ => by kernel_rfl
  v28 := fun _ => by kernel_rfl
  i28 := by kernel_rfl
  t31 := by kernel_rfl
  a31 := fun _ => by kernel_rfl
  z31 := fun _ => by kernel_rfl
  v31 := fun _ => by kernel_rfl
  i31 := by kernel_rfl
  t34 := by kernel_rfl
  a34 := fun _ => by kernel_rfl
  z34 := fun _ => by kernel_rfl
  v34 := fun _ => by kernel_rfl
  i34 := by kernel_rfl
  t35 := by kernel_rfl
  a35 := fun _ => by kernel_rfl
  z35 := fun _ => by kernel_rfl
  v35 := fun _ => by kernel_rfl
  i35 := by kernel_rfl
  t37 := by kernel_rfl
  a37 := fun _ => by kernel_rfl
  z37 := fun _ => by kernel_rfl
  v37 := fun _ => by kernel_rfl
  i37 := by kernel_rfl
  t43 := by kernel_rfl
  a43 := fun _ => by kernel_rfl
  z43 := fun _ => by kernel_rfl
  v43 := fun _ => by kernel_rfl
  i43 := by kernel_rfl
  g0 := by kernel_rfl
  m0 := by kernel_rfl }
end Go.Proofs.YtonmnpmklkbioaaDoor.Laid
/- The alphabet of the walks by reckoning (names), and that its rules are sound. -/
namespace Go.Proofs.YtonmnpmklkbioaaDoor.Sy
open Go.RowKit Go.Proofs.YtonmnpmklkbioaaDoorW.PrintWords
set_option linter.unusedVariables false
set_option linter.unusedSimpArgs false
/-- A rune: the round's own, one with a number added, a number. -/
inductive RE where
  | r
  | add (c : Int)
  | sub (c : Int)
  | cst (c : Int)
  deriving DecidableEq
inductive Cm where
  | eq | le | ge | gt
  deriving DecidableEq
inductive At where
  | mptr
  | mask
  | buf
  | re (x : RE)
  | has (b : Int)
  | cmp (o : Cm) (c : Int)
  | wr (x : RE)
  | var (k : Nat)
  | oth (k : Nat)
  deriving DecidableEq
/-- What the letters stand for. -/
structure Cx where
  mp : Addr
  m : Int
  bp : Addr
  r : Int
  vars : Nat → Bool
  oth : Nat → Value
def hasB (m b : Int) : Bool := (Go.bits .and .u64 m b) != 0
def RE.int (r : Int) : RE → Int
  | .r => r
  | .add c => IntKind.i32.wrap (r + c)
  | .sub c => IntKind.i32.wrap (r - c)
  | .cst c => c
def Cm.on (r c : Int) : Cm → Bool
  | .eq => r == c
  | .le => decide (r ≤ c)
  | .ge => decide (r ≥ c)
  | .gt => decide (r > c)
def Cx.B (x : Cx) : At → Bool
  | .has b => hasB x.m b
  | .cmp o c => o.on x.r c
  | .var k => x.vars k
  | _ => false
def Cx.V (x : Cx) : At → Value
  | .mptr => .pointer (some x.mp)
  | .mask => .int .u64 x.m
  | .buf => .pointer (some x.bp)
  | .re y => .int .i32 (y.int x.r)
  | .wr y => .tuple #[.int .i64 ((Lib.runeCells (y.int x.r)).length : Int), .nilIface]
  | .oth k => x.oth k
  | .has b => .bool (hasB x.m b)
  | .cmp o c => .bool (o.on x.r c)
  | .var k => .bool (x.vars k)
def isBA : At → Bool
  | .has _ => true
  | .cmp _ _ => true
  | .var _ => true
  | _ => false
def reOf : E At → Option RE
  | .atom (.re x) => some x
  | .lit (.int .i32 c) => some (.cst c)
  | _ => none
def ruleCall (cw : Bool) (f : Nat) : List (E At) → Option (E At × List RE)
  | [.atom .mask, .lit (.int .u64 b)] => bif Nat.beq f 56 then some (.atom (.has b), []) else none
  | [.atom .buf, e] => bif cw && Nat.beq f 63 then (match reOf e with
    | some x => some (.atom (.wr x), [x])
    | none => none) else none
  | _ => none
def ruleBin (op : BinOp) : List (E At) → Option (E At × List RE)
  | [.atom (.re .r), .lit (.int .i32 c)] => match op with
    | .eql => some (.atom (.cmp .eq c), [])
    | .leq => some (.atom (.cmp .le c), [])
    | .geq => some (.atom (.cmp .ge c), [])
    | .gtr => some (.atom (.cmp .gt c), [])
    | .add => some (.atom (.re (.add c)), [])
    | .sub => some (.atom (.re (.sub c)), [])
    | _ => none
  | [.lit (.int .i32 c), .atom (.re .r)] => match op with
    | .add => some (.atom (.re (.add c)), [])
    | _ => none
  | _ => none
def ruleLoad : List (E At) → Option (E At × List RE)
  | [.atom .mptr] => some (.atom .mask, [])
  | _ => none
def ruleA (cw : Bool) (o : Op) (es : List (E At)) : Option (E At × List RE) :=
  match o with
  | .load t _ => bif Nat.beq t 43 then ruleLoad es else none
  | .call c => match c.callee with
    | .value (.func f) => ruleCall cw f es
    | _ => none
  | .binOp op t _ _ t2 => bif Nat.beq t 21 && Nat.beq t2 21 then ruleBin op es else none
  | _ => none
def rulesA (cw : Bool) (n : Nat) : Rules At RE := ⟨ruleA cw, fun _ _ => none, isBA, n, fun _ _ => true⟩
/-- What a world must bear for the rules: the mask's cell; a rune may be written. -/
structure Bears (cw : Bool) (x : Cx) (R : List RE → World → Prop) : Prop where
  mask : ∀ tr w, R tr w → w.cell? x.mp = some (.int .u64 x.m)
  drew : ∀ tr w n, R tr w → R tr (w.drewN n)
  write : cw = true → ∀ tr w y, R tr w → Calls Tryd.prog 63 #[.pointer (some x.bp), .int .i32 (y.int x.r)] w fun e w' => e = .returned (.tuple #[.int .i64 ((Lib.runeCells (y.int x.r)).length : Int), .nilIface]) ∧ R (tr ++ [y]) w'
theorem s_write {a : Act} {w : World} {next : Act → World → Prop} {Q : Exit → Act → World → Prop} {dst : Option Nat} {ty : TypeId} {pos : String} {af : Array Edge} {gd : Option (Nat × Bool)} {u v : Operand} {ats : Array TypeId} {x : Cx} {R : List RE → World → Prop} (hB : Bears true x R) {tr : List RE} {y : RE} (hR : R tr w)
    (h1 : a.eval u = .pointer (some x.bp)) (h2 : a.eval v = .int .i32 (y.int x.r)) (h : ∀ w', R (tr ++ [y]) w' → next (a.put dst (x.V (.wr y))) w') : Oper.wp Tryd.prog ⟨dst, .call { callee := .value (.func 63), args := #[u, v], argTypes := ats }, ty, pos, af, gd⟩ a w next Q := by
  have hc := hB.write rfl tr w y hR
  unfold Oper.wp execOp
  dsimp only
  simp only [resolve, invoke, List.map_toArray, List.map_cons, List.map_nil, h1, h2]
  go_simp
  go_at_call 63
  refine hc.mono ?_
  rintro e w' ⟨rfl, hd⟩
  exact h w' hd
theorem reOf_val {x : Cx} {e : E At} {y : RE} (h : reOf e = some y) : e.val x.V = .int .i32 (y.int x.r) := by
  cases e with
  | lit v =>
    cases v with
    | int k c =>
      cases k <;> simp [reOf] at h
      subst h
      rfl
    | _ => simp [reOf] at h
  | atom t =>
    cases t <;> simp [reOf] at h
    subst h
    rfl
theorem args_two {c : Call} {a : Act} {p q : Value} (h : c.args.toList.map a.eval = [p, q]) : ∃ u v, c.args = #[u, v] ∧ a.eval u = p ∧ a.eval v = q := by
  obtain ⟨cal, args, ats⟩ := c
  obtain ⟨l⟩ := args
  match l, h with
  | [u, v], h =>
    simp only [List.map_cons, List.map_nil, List.cons.injEq, and_true] at h
    exact ⟨u, v, rfl, h.1, h.2⟩
theorem beq_t {a b : Nat} (h : Nat.beq a b = true) : a = b := by simpa using h
set_option maxRecDepth 100000 in
set_option maxHeartbeats 1000000 in
theorem soundA (cw : Bool) (n : Nat) {x : Cx} {R : List RE → World → Prop} (hB : Bears cw x R) : Sound (rulesA cw n) Tryd.prog x.V x.B R where
  isB := by
    intro t ht
    cases t <;> first | rfl | cases ht
  quiet := by intro o es e xs h; cases h
  mixed := by kernel_rfl
  drew := hB.drew
  rule := by
    intro o es e f xs h hxs a w tr next Q _ he hR hn
    obtain ⟨dst, op, ty, pos, af, gd⟩ := o
    simp only at h hxs hn
    have h' : ruleA cw op es = some (e, f) := h
    cases op with
    | load t y =>
      simp only [ruleA] at h'
      cases ht : Nat.beq t 43 with
      | false => rw [ht] at h'; cases h'
      | true =>
        obtain rfl := beq_t ht
        rw [ht] at h'
        simp only [cond_true] at h'
        unfold ruleLoad at h'
        split at h'
        · cases h'
          cases hxs
          simp only [List.map_cons, List.map_nil, List.cons.injEq, and_true] at he
          exact s_loadm he (hB.mask tr w hR) (hn w (by simpa using hR))
        · cases h'
    | call c =>
      simp only [ruleA] at h'
      split at h'
      · rename_i fn hcal
        simp only [opnds, Option.some.injEq] at hxs
        subst hxs
        unfold ruleCall at h'
        split at h'
        · rename_i b
          cases ht : Nat.beq fn 56 with
          | false => rw [ht] at h'; cases h'
          | true =>
            obtain rfl := beq_t ht
            rw [ht] at h'
            cases h'
            obtain ⟨u, v, hargs, h1, h2⟩ := args_two he
            obtain ⟨cal, args, ats⟩ := c
            simp only at hcal hargs
            subst hcal hargs
            refine s_has h1 h2 (fun w' hd => hn w' ?_)
            obtain ⟨k, rfl⟩ := hd
            simpa using hB.drew tr w k hR
        · rename_i e2
          cases ht : cw && Nat.beq fn 63 with
          | false => rw [ht] at h'; cases h'
          | true =>
            rw [ht] at h'
            simp only [Bool.and_eq_true] at ht
            obtain ⟨rfl, ht⟩ := ht
            obtain rfl := beq_t ht
            simp only [cond_true] at h'
            split at h'
            · rename_i y hy
              cases h'
              obtain ⟨u, v, hargs, h1, h2⟩ := args_two he
              obtain ⟨cal, args, ats⟩ := c
              simp only at hcal hargs
              subst hcal hargs
              exact s_write hB hR h1 (h2.trans (reOf_val hy)) hn
            · cases h'
        · cases h'
      · cases h'
    | binOp op t u v t2 =>
      simp only [ruleA] at h'
      cases ht : Nat.beq t 21 && Nat.beq t2 21 with
      | false => rw [ht] at h'; cases h'
      | true =>
        rw [ht] at h'
        simp only [Bool.and_eq_true] at ht
        obtain rfl := beq_t ht.1
        obtain rfl := beq_t ht.2
        simp only [cond_true] at h'
        cases hxs
        unfold ruleBin at h'
        split at h'
        · simp only [List.map_cons, List.map_nil, List.cons.injEq, and_true] at he
          have hR' := fun (h0 : f = []) => (show R (tr ++ f) w by subst h0; simpa using hR)
          split at h'
          · cases h'; exact s_eql he.1 he.2 (hn w (hR' rfl))
          · cases h'; exact s_leq he.1 he.2 (hn w (hR' rfl))
          · cases h'; exact s_geq he.1 he.2 (hn w (hR' rfl))
          · cases h'; exact s_gtr he.1 he.2 (hn w (hR' rfl))
          · cases h'; exact s_add he.1 he.2 (hn w (hR' rfl))
          · cases h'; exact s_sub he.1 he.2 (hn w (hR' rfl))
          · cases h'
        · simp only [List.map_cons, List.map_nil, List.cons.injEq, and_true] at he
          split at h'
          · cases h'
            refine s_add he.1 he.2 ?_
            have := hn w (by simpa using hR)
            simp only [E.val, Cx.V, RE.int] at this ⊢
            rw [Int.add_comm] at this
            exact this
          · cases h'
        · cases h'
    | _ => simp [ruleA] at h'
end Go.Proofs.YtonmnpmklkbioaaDoor.Sy
/- What single operations on strings do (names' code): the value that each gives. -/
namespace Go.Proofs.YtonmnpmklkbioaaDoor.Sy
open Go.RowKit Go.Proofs.YtonmnpmklkbioaaDoorW.PrintWords
set_option linter.unusedVariables false
set_option linter.unusedSimpArgs false
theorem encode_rune (n : Int) : Utf8.encode n = ⟨(Lib.encodeRune n).toArray⟩ := by
  unfold Utf8.encode Lib.encodeRune
  by_cases hv : Utf8.valid n = true
  · have hv' := hv
    unfold Utf8.valid at hv'
    simp at hv'
    obtain ⟨c, rfl⟩ : ∃ c : Nat, n = (c : Int) := ⟨n.toNat, by omega⟩
    simp only [hv, if_true, Int.toNat_natCast]
    by_cases h1 : c < 128
    · rw [if_pos h1, Lib.encodeRuneZ_one (by omega) (by omega)]
      simp
    · rw [if_neg h1]
      by_cases h2 : c < 2048
      · rw [if_pos h2, Lib.encodeRuneZ_two (by omega) (by omega)]
        have e1 : ((192 : Int) + (c : Int) / 64).toNat = 192 + c / 64 := by omega
        have e2 : ((128 : Int) + (c : Int) % 64).toNat = 128 + c % 64 := by omega
        simp [e1, e2]
      · rw [if_neg h2]
        by_cases h3 : c < 65536
        · rw [if_pos h3, Lib.encodeRuneZ_three (by omega)]
          have e1 : ((224 : Int) + (c : Int) / 4096).toNat = 224 + c / 4096 := by omega
          have e2 : ((128 : Int) + (c : Int) / 64 % 64).toNat = 128 + c / 64 % 64 := by omega
          have e3 : ((128 : Int) + (c : Int) % 64).toNat = 128 + c % 64 := by omega
          simp [e1, e2, e3]
        · rw [if_neg h3, Lib.encodeRuneZ_four (by omega) (by omega)]
          have e1 : ((240 : Int) + (c : Int) / 262144).toNat = 240 + c / 262144 := by omega
          have e2 : ((128 : Int) + (c : Int) / 4096 % 64).toNat = 128 + c / 4096 % 64 := by omega
          have e3 : ((128 : Int) + (c : Int) / 64 % 64).toNat = 128 + c / 64 % 64 := by omega
          have e4 : ((128 : Int) + (c : Int) % 64).toNat = 128 + c % 64 := by omega
          simp [e1, e2, e3, e4]
  · have hv' := hv
    unfold Utf8.valid at hv'
    simp at hv'
    rw [Lib.encodeRuneZ_bad (by omega)]
    have e : (if Utf8.valid n = true then n.toNat else Utf8.runeError) = 65533 := by rw [if_neg hv]; rfl
    simp only [e]
    decide
section
variable {a : Act} {w : World} {next : Act → World → Prop} {Q : Exit → Act → World → Prop} {dst : Option Nat} {ty : TypeId} {pos : String} {af : Array Edge} {gd : Option (Nat × Bool)} {x y z : Operand}
theorem r_index {S : ByteArray} {i : Nat} (h1 : a.eval x = .string S) (h2 : a.eval y = .int .i64 (i : Int)) (hi : i < S.size) : (execOp a.eval ⟨dst, .index 9 x y, ty, pos, af, gd⟩).run Tryd.prog w = .ok (.value (.int .u8 (S[i].toNat : Int))) w := by
  unfold execOp
  dsimp only
  rw [h1, h2]
  go_simp
theorem r_slice_lo {S : ByteArray} {i : Nat} (h1 : a.eval x = .string S) (h2 : a.eval y = .int .i64 (i : Int)) (hi : i ≤ S.size) : (execOp a.eval ⟨dst, .slice 9 x (some y) none none, ty, pos, af, gd⟩).run Tryd.prog w = .ok (.value (.string (S.extract i S.size))) w := by
  unfold execOp
  dsimp only [Option.map]
  rw [h1, h2]
  have h3 : (i : Int) ≤ (S.size : Int) := by omega
  go_simp
theorem r_slice_hi {S : ByteArray} {i : Nat} (h1 : a.eval x = .string S) (h2 : a.eval y = .int .i64 (i : Int)) (hi : i ≤ S.size) : (execOp a.eval ⟨dst, .slice 9 x none (some y) none, ty, pos, af, gd⟩).run Tryd.prog w = .ok (.value (.string (S.extract 0 i))) w := by
  unfold execOp
  dsimp only [Option.map]
  rw [h1, h2]
  have h3 : (i : Int) ≤ (S.size : Int) := by omega
  go_simp
theorem r_slice_both {S : ByteArray} {i j : Nat} (h1 : a.eval x = .string S) (h2 : a.eval y = .int .i64 (i : Int)) (h3 : a.eval z = .int .i64 (j : Int)) (hi : i ≤ j) (hj : j ≤ S.size) : (execOp a.eval ⟨dst, .slice 9 x (some y) (some z) none, ty, pos, af, gd⟩).run Tryd.prog w = .ok (.value (.string (S.extract i j))) w := by
  unfold execOp
  dsimp only [Option.map]
  rw [h1, h2, h3]
  have h4 : (i : Int) ≤ (j : Int) := by omega
  have h5 : (j : Int) ≤ (S.size : Int) := by omega
  go_simp
theorem r_len {S : ByteArray} {ats : Array TypeId} (h1 : a.eval x = .string S) (hs : S.size ≤ 140737488351232) : (execOp a.eval ⟨dst, .call { callee := .builtin .len, args := #[x], argTypes := #[9] }, ty, pos, af, gd⟩).run Tryd.prog w = .ok (.value (.int .i64 (S.size : Int))) w := by
  unfold execOp
  dsimp only
  simp only [resolve, invoke, List.map_toArray, List.map_cons, List.map_nil, h1]
  go_simp
theorem r_sub64 {n c : Int} (h1 : a.eval x = .int .i64 n) (h2 : a.eval y = .int .i64 c) : (execOp a.eval ⟨dst, .binOp .sub 3 x y 3, ty, pos, af, gd⟩).run Tryd.prog w = .ok (.value (.int .i64 (IntKind.i64.wrap (n - c)))) w := by
  unfold execOp
  dsimp only
  rw [h1, h2]
  go_simp
theorem r_add64 {n c : Int} (h1 : a.eval x = .int .i64 n) (h2 : a.eval y = .int .i64 c) : (execOp a.eval ⟨dst, .binOp .add 3 x y 3, ty, pos, af, gd⟩).run Tryd.prog w = .ok (.value (.int .i64 (IntKind.i64.wrap (n + c)))) w := by
  unfold execOp
  dsimp only
  rw [h1, h2]
  go_simp
theorem r_eql8 {n c : Int} (h1 : a.eval x = .int .u8 n) (h2 : a.eval y = .int .u8 c) : (execOp a.eval ⟨dst, .binOp .eql 5 x y 5, ty, pos, af, gd⟩).run Tryd.prog w = .ok (.value (.bool (n == c))) w := by
  unfold execOp
  dsimp only
  rw [h1, h2]
  go_simp
theorem r_eql64 {n c : Int} (h1 : a.eval x = .int .i64 n) (h2 : a.eval y = .int .i64 c) : (execOp a.eval ⟨dst, .binOp .eql 3 x y 3, ty, pos, af, gd⟩).run Tryd.prog w = .ok (.value (.bool (n == c))) w := by
  unfold execOp
  dsimp only
  rw [h1, h2]
  go_simp
theorem r_eqlm {n c : Int} (h1 : a.eval x = .int .u64 n) (h2 : a.eval y = .int .u64 c) : (execOp a.eval ⟨dst, .binOp .eql 43 x y 43, ty, pos, af, gd⟩).run Tryd.prog w = .ok (.value (.bool (n == c))) w := by
  unfold execOp
  dsimp only
  rw [h1, h2]
  go_simp
theorem r_eql32 {n c : Int} (h1 : a.eval x = .int .i32 n) (h2 : a.eval y = .int .i32 c) : (execOp a.eval ⟨dst, .binOp .eql 21 x y 21, ty, pos, af, gd⟩).run Tryd.prog w = .ok (.value (.bool (n == c))) w := by
  unfold execOp
  dsimp only
  rw [h1, h2]
  go_simp
theorem r_add32 {n c : Int} (h1 : a.eval x = .int .i32 n) (h2 : a.eval y = .int .i32 c) : (execOp a.eval ⟨dst, .binOp .add 21 x y 21, ty, pos, af, gd⟩).run Tryd.prog w = .ok (.value (.int .i32 (IntKind.i32.wrap (n + c)))) w := by
  unfold execOp
  dsimp only
  rw [h1, h2]
  go_simp
theorem r_eqls {s t : ByteArray} (h1 : a.eval x = .string s) (h2 : a.eval y = .string t) : (execOp a.eval ⟨dst, .binOp .eql 9 x y 9, ty, pos, af, gd⟩).run Tryd.prog w = .ok (.value (.bool (s.toList == t.toList))) w := by
  unfold execOp
  dsimp only
  rw [h1, h2]
  go_simp
theorem r_neqs {s t : ByteArray} (h1 : a.eval x = .string s) (h2 : a.eval y = .string t) : (execOp a.eval ⟨dst, .binOp .neq 9 x y 9, ty, pos, af, gd⟩).run Tryd.prog w = .ok (.value (.bool (!(s.toList == t.toList)))) w := by
  unfold execOp
  dsimp only
  rw [h1, h2]
  go_simp
theorem r_adds {s t : ByteArray} (h1 : a.eval x = .string s) (h2 : a.eval y = .string t) (hl : s.size + t.size ≤ 140737488355327) : (execOp a.eval ⟨dst, .binOp .add 9 x y 9, ty, pos, af, gd⟩).run Tryd.prog w = .ok (.value (.string (s ++ t))) w := by
  unfold execOp
  dsimp only
  rw [h1, h2]
  have h3 : s.size + t.size ≤ 9223372036854775807 := by omega
  go_simp
theorem r_conv832 {n : Int} (h1 : a.eval x = .int .u8 n) (h0 : 0 ≤ n) (hn : n ≤ 255) : (execOp a.eval ⟨dst, .convert 5 21 x, ty, pos, af, gd⟩).run Tryd.prog w = .ok (.value (.int .i32 n)) w := by
  unfold execOp
  dsimp only
  rw [h1]
  have : IntKind.i32.wrap n = n := by unfold IntKind.wrap; simp [IntKind.bits, IntKind.signed]; omega
  go_simp
theorem r_convs {n : Int} (h1 : a.eval x = .int .i32 n) : (execOp a.eval ⟨dst, .convert 21 9 x, ty, pos, af, gd⟩).run Tryd.prog w = .ok (.value (.string ⟨(Lib.encodeRune n).toArray⟩)) w := by
  unfold execOp
  dsimp only
  rw [h1]
  go_simp
  exact encode_rune n
theorem r_extract {l : Array Value} {i : Nat} {v : Value} (h1 : a.eval x = .tuple l) (h2 : l[i]? = some v) : (execOp a.eval ⟨dst, .extract x i, ty, pos, af, gd⟩).run Tryd.prog w = .ok (.value v) w := by
  unfold execOp
  dsimp only
  rw [h1]
  simp [Instr.extract, h2]
theorem r_load {p : Addr} {m : Int} (h1 : a.eval x = .pointer (some p)) (hv : w.cell? p = some (.int .u64 m)) : (execOp a.eval ⟨dst, .load 43 x, ty, pos, af, gd⟩).run Tryd.prog w = .ok (.value (.int .u64 m)) w := by
  unfold execOp
  dsimp only
  rw [h1]
  go_simp
end
end Go.Proofs.YtonmnpmklkbioaaDoor.Sy
/- The two closures of the encoder's code (which characters are to be looked at), by reckoning. -/
namespace Go.Proofs.YtonmnpmklkbioaaDoor.Sy
open Go.RowKit Go.Proofs.YtonmnpmklkbioaaDoorW.PrintWords
set_option linter.unusedVariables false
set_option linter.unusedSimpArgs false
abbrev tT : DS At RE := .leaf ⟨.ret, [some (.lit (.bool true))], []⟩
abbrev tN : DS At RE := .leaf ⟨.normal, [], []⟩
abbrev envC : Env At := [(0, E.atom (At.re .r)), (1, E.atom At.mptr)]
/-- A world behind draws alone. -/
def Rd (w0 : World) (_ : List RE) (w : World) : Prop := ∃ n, w = w0.drewN n
theorem Rd.bears {x : Cx} {w0 : World} (h : w0.cell? x.mp = some (.int .u64 x.m)) : Bears false x (Rd w0) where
  mask := by rintro tr w ⟨n, rfl⟩; exact h
  drew := by rintro tr w n ⟨m, rfl⟩; exact ⟨m + n, by simp [World.drewN, Nat.add_assoc]⟩
  write := fun h => by cases h
/-- The context of a closure: the mask's cell, the rune. -/
def cxC (mp : Addr) (m r : Int) : Cx := ⟨mp, m, ⟨0, 0, none⟩, r, fun _ => false, fun _ => .nilIface⟩
def d60 : List (DS At RE) := [tN, .br (.cmp .eq (0)) tT (.br (.cmp .eq (9216)) tT (.br (.cmp .eq (8219)) tT (.br (.cmp .eq (65533)) tT tN))), .br (.has (512)) (.br (.cmp .eq (42)) tT (.br (.cmp .eq (65290)) tT tN)) tN, .br (.has (4)) (.br (.cmp .eq (60)) tT (.br (.cmp .eq (62)) tT (.br (.cmp .eq (65308)) tT (.br (.cmp .eq (65310)) tT tN)))) tN, .br (.has (67108864)) (.br (.cmp .eq (91)) tT (.br (.cmp .eq (93)) tT (.br (.cmp .eq (65339)) tT (.br (.cmp .eq (65341)) tT tN)))) tN, .br (.has (134217728)) (.br (.cmp .eq (59)) tT (.br (.cmp .eq (65307)) tT tN)) tN, .br (.has (268435456)) (.br (.cmp .eq (33)) tT (.br (.cmp .eq (65281)) tT tN)) tN, .br (.has (256)) (.br (.cmp .eq (63)) tT (.br (.cmp .eq (65311)) tT tN)) tN, .br (.has (128)) (.br (.cmp .eq (58)) tT (.br (.cmp .eq (65306)) tT tN)) tN, .br (.has (1024)) (.br (.cmp .eq (124)) tT (.br (.cmp .eq (65372)) tT tN)) tN, .br (.has (8)) (.br (.cmp .eq (34)) tT (.br (.cmp .eq (65282)) tT tN)) tN, .br (.has (16)) (.br (.cmp .eq (39)) tT (.br (.cmp .eq (65287)) tT tN)) tN, .br (.has (32)) (.br (.cmp .eq (96)) tT (.br (.cmp .eq (65344)) tT tN)) tN, .br (.has (64)) (.br (.cmp .eq (36)) tT (.br (.cmp .eq (65284)) tT tN)) tN, .br (.has (2)) (.br (.cmp .eq (47)) tT (.br (.cmp .eq (65295)) tT tN)) tN, .br (.has (8192)) (.br (.cmp .eq (92)) tT (.br (.cmp .eq (65340)) tT tN)) tN, .br (.has (16384)) (.br (.cmp .eq (13)) tT (.br (.cmp .eq (10)) tT (.br (.cmp .eq (9229)) tT (.br (.cmp .eq (9226)) tT tN)))) tN, .br (.has (2048)) (.br (.cmp .eq (35)) tT (.br (.cmp .eq (65283)) tT tN)) tN, .br (.has (4096)) (.br (.cmp .eq (37)) tT (.br (.cmp .eq (65285)) tT tN)) tN, .br (.has (32768)) (.br (.cmp .eq (127)) tT (.br (.cmp .eq (9249)) tT tN)) tN, .br (.has (65536)) (.br (.cmp .ge (1)) (.br (.cmp .le (31)) tT (.br (.cmp .gt (9216)) (.br (.cmp .le (9247)) tT tN) tN)) (.br (.cmp .gt (9216)) (.br (.cmp .le (9247)) tT tN) tN)) tN]
noncomputable def c60 : Code := Tryd.f60.body.getD .skip
def hit60 (m r : Int) : Bool := d60.any (DS.isT (cxC ⟨0, 0, none⟩ m r).B)
set_option maxRecDepth 1000000 in
theorem d60_is : (top (rulesA false 138) c60 envC).map (List.map (fun d => norm (fun _ => none) (strip [3] d))) = some (d60 ++ [.leaf ⟨.ret, [some (.lit (.bool false))], []⟩]) := by kernel_rfl
theorem d60_ok : d60.all okHit = true := by kernel_rfl
set_option maxRecDepth 1000000 in
theorem calls60 (mp : Addr) (m r : Int) (w : World) (hm : w.cell? mp = some (.int .u64 m)) :
    Calls Tryd.prog 60 #[.int .i32 r, .pointer (some mp)] w fun e w' => e = .returned (.bool (hit60 m r)) ∧ ∃ n, w' = w.drewN n := by
  obtain ⟨Ds, hDs, hds⟩ := Option.map_eq_some_iff.1 d60_is
  have hrun : runS (cxC mp m r).B (Ds.map (strip [3])) = ⟨.ret, [some (.lit (.bool (hit60 m r)))], []⟩ := by
    rw [← norm_list (cxC mp m r).B (fun _ => none) (fun _ _ h => by cases h), List.map_map]
    have : Ds.map (norm (fun _ => none) ∘ strip [3]) = d60 ++ [.leaf ⟨.ret, [some (.lit (.bool false))], []⟩] := hds
    rw [this]
    exact runS_hit (cxC mp m r).B d60 d60_ok
  rw [stripTop] at hrun
  obtain ⟨o, ho⟩ : ∃ o, runTop (cxC mp m r).B Ds = o := ⟨_, rfl⟩
  rw [ho] at hrun
  obtain ⟨ex, env, tr⟩ := o
  cases ex with
  | normal => cases hrun
  | exit n => cases hrun
  | bad => cases hrun
  | ret =>
    simp only [lfOf, Lf.mk.injEq, List.map_cons, List.map_nil, List.cons.injEq, and_true, true_and] at hrun
    refine calls_of_wp (Tryd.func60) (c := c60) (by kernel_rfl) ?_
    refine top_wp (soundA false 138 (x := cxC mp m r) (Rd.bears hm)) hDs (by rw [ho]; intro h; cases h) ⟨rfl, by kernel_rfl, ?_⟩ ⟨0, rfl⟩ ?_
    · intro i e he
      rw [Env.get_cons] at he
      split at he
      · rename_i h; subst h; cases he; exact init_at rfl
      · rw [Env.get_cons] at he
        split at he
        · rename_i h; subst h; cases he; exact init_at rfl
        · cases he
    · intro a' w' hF hR
      rw [ho] at hF hR ⊢
      obtain ⟨n, hn⟩ := hR
      refine ⟨hF.df, .bool (hit60 m r), ?_, rfl, n, hn⟩
      have h3 := hF.at_ 3 _ hrun.1
      rw [results_tmp (t := 3) Tryd.results60]
      simp only [Array.getD_eq_getD_getElem?, h3, Option.getD_some, E.val]
def d68 : List (DS At RE) := [tN, .br (.cmp .eq (9216)) tT (.br (.cmp .eq (8219)) tT tN), .br (.has (512)) (.br (.cmp .eq (65290)) tT tN) tN, .br (.has (4)) (.br (.cmp .eq (65308)) tT (.br (.cmp .eq (65310)) tT tN)) tN, .br (.has (67108864)) (.br (.cmp .eq (65339)) tT (.br (.cmp .eq (65341)) tT tN)) tN, .br (.has (134217728)) (.br (.cmp .eq (65307)) tT tN) tN, .br (.has (268435456)) (.br (.cmp .eq (65281)) tT tN) tN, .br (.has (256)) (.br (.cmp .eq (65311)) tT tN) tN, .br (.has (128)) (.br (.cmp .eq (65306)) tT tN) tN, .br (.has (1024)) (.br (.cmp .eq (65372)) tT tN) tN, .br (.has (8)) (.br (.cmp .eq (65282)) tT tN) tN, .br (.has (16)) (.br (.cmp .eq (65287)) tT tN) tN, .br (.has (32)) (.br (.cmp .eq (65344)) tT tN) tN, .br (.has (64)) (.br (.cmp .eq (65284)) tT tN) tN, .br (.has (2)) (.br (.cmp .eq (65295)) tT tN) tN, .br (.has (8192)) (.br (.cmp .eq (65340)) tT tN) tN, .br (.has (16384)) (.br (.cmp .eq (9229)) tT (.br (.cmp .eq (9226)) tT tN)) tN, .br (.has (2048)) (.br (.cmp .eq (65283)) tT tN) tN, .br (.has (4096)) (.br (.cmp .eq (65285)) tT tN) tN, .br (.has (32768)) (.br (.cmp .eq (9249)) tT tN) tN, .br (.has (65536)) (.br (.cmp .gt (9216)) (.br (.cmp .le (9247)) tT tN) tN) tN]
noncomputable def c68 : Code := Tryd.f68.body.getD .skip
def hit68 (m r : Int) : Bool := d68.any (DS.isT (cxC ⟨0, 0, none⟩ m r).B)
set_option maxRecDepth 1000000 in
theorem d68_is : (top (rulesA false 109) c68 envC).map (List.map (fun d => norm (fun _ => none) (strip [3] d))) = some (d68 ++ [.leaf ⟨.ret, [some (.lit (.bool false))], []⟩]) := by kernel_rfl
theorem d68_ok : d68.all okHit = true := by kernel_rfl
set_option maxRecDepth 1000000 in
theorem calls68 (mp : Addr) (m r : Int) (w : World) (hm : w.cell? mp = some (.int .u64 m)) :
    Calls Tryd.prog 68 #[.int .i32 r, .pointer (some mp)] w fun e w' => e = .returned (.bool (hit68 m r)) ∧ ∃ n, w' = w.drewN n := by
  obtain ⟨Ds, hDs, hds⟩ := Option.map_eq_some_iff.1 d68_is
  have hrun : runS (cxC mp m r).B (Ds.map (strip [3])) = ⟨.ret, [some (.lit (.bool (hit68 m r)))], []⟩ := by
    rw [← norm_list (cxC mp m r).B (fun _ => none) (fun _ _ h => by cases h), List.map_map]
    have : Ds.map (norm (fun _ => none) ∘ strip [3]) = d68 ++ [.leaf ⟨.ret, [some (.lit (.bool false))], []⟩] := hds
    rw [this]
    exact runS_hit (cxC mp m r).B d68 d68_ok
  rw [stripTop] at hrun
  obtain ⟨o, ho⟩ : ∃ o, runTop (cxC mp m r).B Ds = o := ⟨_, rfl⟩
  rw [ho] at hrun
  obtain ⟨ex, env, tr⟩ := o
  cases ex with
  | normal => cases hrun
  | exit n => cases hrun
  | bad => cases hrun
  | ret =>
    simp only [lfOf, Lf.mk.injEq, List.map_cons, List.map_nil, List.cons.injEq, and_true, true_and] at hrun
    refine calls_of_wp (Tryd.func68) (c := c68) (by kernel_rfl) ?_
    refine top_wp (soundA false 109 (x := cxC mp m r) (Rd.bears hm)) hDs (by rw [ho]; intro h; cases h) ⟨rfl, by kernel_rfl, ?_⟩ ⟨0, rfl⟩ ?_
    · intro i e he
      rw [Env.get_cons] at he
      split at he
      · rename_i h; subst h; cases he; exact init_at rfl
      · rw [Env.get_cons] at he
        split at he
        · rename_i h; subst h; cases he; exact init_at rfl
        · cases he
    · intro a' w' hF hR
      rw [ho] at hF hR ⊢
      obtain ⟨n, hn⟩ := hR
      refine ⟨hF.df, .bool (hit68 m r), ?_, rfl, n, hn⟩
      have h3 := hF.at_ 3 _ hrun.1
      rw [results_tmp (t := 3) Tryd.results68]
      simp only [Array.getD_eq_getD_getElem?, h3, Option.getD_some, E.val]
end Go.Proofs.YtonmnpmklkbioaaDoor.Sy
