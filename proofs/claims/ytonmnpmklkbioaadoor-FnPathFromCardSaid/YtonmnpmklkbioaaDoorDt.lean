/- spec.NameDecode: what it gives. -/
import Derived.Test.YtonmnpmklkbioaaDoorGn
import Derived.Deep.CutBlock
namespace Go.Proofs.YtonmnpmklkbioaaDoor.Given
open Go.RowKit Go.Proofs.YtonmnpmklkbioaaDoorW.PrintWords Go.Proofs.YtonmnpmklkbioaaDoorW.PrintLast Go.Proofs.YtonmnpmklkbioaaDoorW.PrintMore Go.Proofs.YtonmnpmklkbioaaDoor.PN
open Go.Proofs.YtonmnpmklkbioaaDoor.Pt (Ch Tk flat chars chs sof sgn Pr qt lsign unq hexv decC dleft dright dmid undotC)
open Go.Proofs.YtonmnpmklkbioaaDoor.Sy (tl strB tl_size strB_tl tl_strB tkm tkm_ok hasB undotO undotO_is dleft_pr dright_pr dmidA good_of)
set_option linter.unusedVariables false
set_option linter.unusedSimpArgs false
def dE : Nat → List UInt8
  | 0 => [239, 188, 142]
  | 1 => [239, 188, 142, 239, 188, 142]
  | 2 => [226, 128, 155, 239, 188, 142]
  | _ => [226, 128, 155, 239, 188, 142, 226, 128, 155, 239, 188, 142]
def dF : Nat → ByteArray
  | 0 => strB [46]
  | 1 => strB [46, 46]
  | 2 => strB [239, 188, 142]
  | _ => strB [239, 188, 142, 239, 188, 142]
/-- The name is the j-th written name of points, and the mask has to do with them. -/
def cU (m : Int) (s : ByteArray) (j : Nat) : Bool := hasB m 33554432 && (s.toList == dE j)
theorem undot_hit {m : Int} {s : ByteArray} {i : Nat} (hi : i < 4) (h : ∀ j, j < i → cU m s j = false) (hc : cU m s i = true) : undotO m s = some (dF i) := by
  unfold cU at h hc
  rw [Bool.and_eq_true] at hc
  have e : ∀ j, j < i → (s.toList == dE j) = false := fun j hj => by have := h j hj; rw [hc.1] at this; simpa using this
  unfold undotO
  rw [hc.1, cond_true]
  rcases (show i = 0 ∨ i = 1 ∨ i = 2 ∨ i = 3 by omega) with rfl | rfl | rfl | rfl
  · rw [show (s.toList == [239, 188, 142]) = true from hc.2]; rfl
  · rw [show (s.toList == [239, 188, 142]) = false from e 0 (by omega), show (s.toList == [239, 188, 142, 239, 188, 142]) = true from hc.2]; rfl
  · rw [show (s.toList == [239, 188, 142]) = false from e 0 (by omega), show (s.toList == [239, 188, 142, 239, 188, 142]) = false from e 1 (by omega), show (s.toList == [226, 128, 155, 239, 188, 142]) = true from hc.2]; rfl
  · rw [show (s.toList == [239, 188, 142]) = false from e 0 (by omega), show (s.toList == [239, 188, 142, 239, 188, 142]) = false from e 1 (by omega), show (s.toList == [226, 128, 155, 239, 188, 142]) = false from e 2 (by omega), show (s.toList == [226, 128, 155, 239, 188, 142, 226, 128, 155, 239, 188, 142]) = true from hc.2]; rfl
theorem undot_no {m : Int} {s : ByteArray} (h : ∀ j, j < 4 → cU m s j = false) : undotO m s = none := by
  unfold cU at h
  unfold undotO
  cases hb : hasB m 33554432 with
  | false => rfl
  | true =>
    have e : ∀ j, j < 4 → (s.toList == dE j) = false := fun j hj => by have := h j hj; rw [hb] at this; simpa using this
    rw [cond_true, show (s.toList == [239, 188, 142]) = false from e 0 (by omega), show (s.toList == [239, 188, 142, 239, 188, 142]) = false from e 1 (by omega), show (s.toList == [226, 128, 155, 239, 188, 142]) = false from e 2 (by omega), show (s.toList == [226, 128, 155, 239, 188, 142, 226, 128, 155, 239, 188, 142]) = false from e 3 (by omega)]
    rfl
theorem dmid_fuel (k : Tk) : ∀ (f g : Nat) (L : List Ch), L.length ≤ f → L.length ≤ g → dmid k f L = dmid k g L
  | 0, g, L, h, _ => by
    have : L = [] := List.length_eq_zero_iff.1 (by omega)
    subst this
    cases g <;> rfl
  | f + 1, g, [], _, _ => by cases g <;> rfl
  | f + 1, 0, c :: L, _, h => by simp at h
  | f + 1, g + 1, c :: L, h1, h2 => by
    simp only [List.length_cons] at h1 h2
    show (if c = qt then (unq k L).1 :: dmid k f (L.drop ((unq k L).2 - 1)) else (match lsign k.t c with | some a => Ch.g a | none => c) :: dmid k f L) = (if c = qt then (unq k L).1 :: dmid k g (L.drop ((unq k L).2 - 1)) else (match lsign k.t c with | some a => Ch.g a | none => c) :: dmid k g L)
    rw [dmid_fuel k f g L (by omega) (by omega), dmid_fuel k f g (L.drop ((unq k L).2 - 1)) (by rw [List.length_drop]; omega) (by rw [List.length_drop]; omega)]
theorem unq_rng (k : Tk) (L : List Ch) : 1 ≤ (unq k L).2 ∧ (unq k L).2 ≤ L.length + 1 := by
  cases L with
  | nil => exact ⟨Nat.le_refl _, Nat.le_refl _⟩
  | cons d L =>
    unfold unq
    dsimp only
    split
    · simp
    · cases L with
      | nil => simp
      | cons e L =>
        dsimp only
        split
        · split <;> simp
        · simp
/-- What the next characters mean, and how many they are. -/
def nxC (k : Tk) : List Ch → Ch × Nat
  | [] => (qt, 0)
  | c :: L => if c = qt then unq k L else ((match lsign k.t c with | some a => Ch.g a | none => c), 1)
theorem dmidA_nx (k : Tk) (c : Ch) (L : List Ch) : dmidA k (c :: L) = (nxC k (c :: L)).1 :: dmidA k ((c :: L).drop (nxC k (c :: L)).2) := by
  unfold dmidA
  show (if c = qt then (unq k L).1 :: dmid k L.length (L.drop ((unq k L).2 - 1)) else (match lsign k.t c with | some a => Ch.g a | none => c) :: dmid k L.length L) = _
  have hx : nxC k (c :: L) = if c = qt then unq k L else ((match lsign k.t c with | some a => Ch.g a | none => c), 1) := rfl
  by_cases h : c = qt
  · rw [if_pos h] at hx ⊢
    rw [hx]
    obtain ⟨n, hn⟩ : ∃ n, (unq k L).2 = n + 1 := ⟨(unq k L).2 - 1, by have := (unq_rng k L).1; omega⟩
    rw [hn, Nat.add_sub_cancel, List.drop_succ_cons]
    rw [dmid_fuel k L.length (L.drop n).length (L.drop n) (by rw [List.length_drop]; omega) (Nat.le_refl _)]
  · rw [if_neg h] at hx ⊢
    rw [hx]
    rfl
theorem nx_rng (k : Tk) (c : Ch) (L : List Ch) : 1 ≤ (nxC k (c :: L)).2 ∧ (nxC k (c :: L)).2 ≤ L.length + 1 := by
  unfold nxC
  dsimp only
  split
  · exact unq_rng k L
  · exact ⟨Nat.le_refl _, by dsimp only; omega⟩
theorem cutN {A : Option Addr} {c : Nat} {xs : List S52} {n : Nat} (h1 : n ≤ xs.length) (hc : xs.length ≤ c) : ∃ A' : Option Addr, (∀ W : World, (Instr.slice 47 (.slice A xs.length c) (some (.int .i64 (n : Int))) none none).run Tryd.prog W = .ok (.slice A' (xs.drop n).length (c - n)) W) ∧
    (∀ w : World, Kd.C k52 w A xs.length xs → Kd.C k52 w A' (xs.drop n).length (xs.drop n)) ∧ (xs.drop n).length ≤ c - n := by
  obtain ⟨i, hi, hs⟩ := info52s
  have hl : (xs.drop n).length = xs.length - n := List.length_drop
  refine ⟨if c = n then A else A.map (·.add (n * 3)), fun W => ?_, fun w h => Kd.C_drop h h1 hc, by omega⟩
  have hel : Tryd.prog.elem 47 = 52 := by simp [Program.elem, Tryd.underlying47]
  have hu : Tryd.prog.underlying 47 = some (.slice (Tryd.prog.elem 47)) := by rw [hel]; exact Tryd.underlying47
  rw [run_slice_l W 47 A xs.length c hu .i64 n (by omega) (by omega), hel, hl]
  simp [sizeOf, typeInfo, hi, hs, sliced, Result.andThen]
theorem ls_of {P : Nat → Bool} {c : Ch} {a : Nat} (h : lsign P c = some a) : sgC c = (a : Int) ∧ P a = true := by
  rcases sgC_cases c with ⟨_, h2⟩ | ⟨b, h1, h2⟩
  · rw [h2] at h; cases h
  · rw [h2] at h
    split at h
    · cases h; exact ⟨h1, by assumption⟩
    · cases h
theorem dright_snoc (k : Tk) (M : List Ch) (c : Ch) : dright k (M ++ [c]) = match lsign k.r c with
    | none => (M ++ [c], [])
    | some a => if M.getLast? = some qt then (M.dropLast, [c]) else (M, [.g a]) := by
  unfold dright
  rw [List.getLast?_concat]
  dsimp only
  rw [List.dropLast_concat]
  cases lsign k.r c <;> rfl
theorem dright_len (k : Tk) (R : List Ch) : (dright k R).1.length ≤ R.length ∧ (dright k R).2.length ≤ 1 := by
  by_cases hR : R = []
  · subst hR; exact ⟨Nat.le_refl _, Nat.zero_le _⟩
  · obtain ⟨M, c, rfl⟩ : ∃ M c, R = M ++ [c] := ⟨R.dropLast, R.getLast hR, (List.dropLast_concat_getLast hR).symm⟩
    rw [dright_snoc]
    split
    · exact ⟨Nat.le_refl _, Nat.zero_le _⟩
    · split
      · exact ⟨by simp; omega, Nat.le_refl _⟩
      · exact ⟨by simp, Nat.le_refl _⟩
theorem dleft_len (k : Tk) (L : List Ch) : (dleft k L).2.length ≤ L.length ∧ (dleft k L).1.length ≤ 1 := by
  cases L with
  | nil => exact ⟨Nat.le_refl _, Nat.zero_le _⟩
  | cons c L =>
    rw [Pt.dleft_cons]
    split
    · exact ⟨by simp, Nat.le_refl _⟩
    · cases L with
      | nil => exact ⟨Nat.le_refl _, Nat.zero_le _⟩
      | cons d L =>
        dsimp only
        split
        · exact ⟨by simp; omega, Nat.le_refl _⟩
        · exact ⟨Nat.le_refl _, Nat.zero_le _⟩
/-- Whether the last character is a sign that the right takes. -/
def rB (k : Tk) (R : List Ch) : Bool := match R.getLast? with
  | some c => (lsign k.r c).isSome
  | none => false
theorem rB_snoc (k : Tk) (M : List Ch) (c : Ch) : rB k (M ++ [c]) = (lsign k.r c).isSome := by
  unfold rB
  rw [List.getLast?_concat]
theorem add_one1 (a : Addr) : a.add 1 = ⟨a.block, a.off + 1, none⟩ := by simp [Addr.add]
theorem add_zero0 (a : Addr) : a.add 0 = a := by simp [Addr.add]
/-- The append, at a step of a region that draws its order. -/
theorem stepAppendG {w : World} {ops : Array Oper} {o : Oper} {a : Act} {K : Act → World → Prop} {Q : Exit → Act → World → Prop} {E : Prop} (hgd : o.guard = none) (sl x : Operand)
    (ho : o.op = .call { callee := .builtin .append, args := #[sl, x], argTypes := #[23, 9] }) (base : Nat)
    {v : Value} {xs : List Value} (hs : a.eval sl = v) (hown : OwnG w base v xs) (s : ByteArray) (hx : a.eval x = .string s) (hbytes : xs.length + s.size ≤ 140737488355328) (hbase : base ≤ w.heap.size)
    (h : ∀ v' w', OwnG w' base v' (xs ++ Lib.strCells s) → w.grownBy w' v.ownBlock → K (a.put o.dst v') w') :
    if Region.wanted o (yielded ops a.tmps) = true then Oper.wp Tryd.prog o a w K Q else E := by
  obtain ⟨i, hi, hzz⟩ := Option.map_eq_some_iff.1 infoG5
  simp only [Prod.mk.injEq] at hzz
  have hw : Region.wanted o (yielded ops a.tmps) = true := by simp [Region.wanted, hgd]
  rw [if_pos hw]
  obtain ⟨v', w', hr, h2, h3⟩ := appendG w base o.type hi hzz.1 hzz.2.1 hzz.2.2 hown s hbytes hbase
  unfold Oper.wp execOp
  simp only [ho, resolve, invoke, builtin, Sem.run_bind, Sem.run_pure, Result.andThen_ok, List.map_toArray, List.map_cons, List.map_nil, hs, hx, hr]
  exact h v' w' h2 h3
set_option maxHeartbeats 16000000 in
set_option maxRecDepth 100000 in
theorem dec25 (m : Int) (s : ByteArray) (w : World) (hs : s.size ≤ 1000000000) :
    Calls Tryd.prog 25 #[.int .u64 m, .string s] w fun e w' => e = .returned (.string (decN m s)) ∧ Below w.heap.size w w' := by
  have hu52 := Tryd.underlying52
  have hu46 := Tryd.underlying46
  have hbw : ∀ os, Below w.heap.size w (w.alloc os) := fun os => (Below.refl _ w).alloc (Nat.le_refl _) _
  by_cases h1 : m = 1
  · have e1 : decN m s = s := by unfold decN; rw [if_pos h1]
    rw [e1]
    subst h1
    go_enter Tryd.func25, Tryd.ntmps25
    go_wp2
    go_ret
    exact ⟨rfl, hbw _⟩
  have eN : decN m s = strB (flat (decC (tkm m) (chars (tl s)))) := by unfold decN; rw [if_neg h1]
  have hm1 : (m == 1) = false := by rw [beq_eq_false_iff_ne]; exact h1
  by_cases hz : s.size = 0
  · have hse : s = ⟨#[]⟩ := by
      obtain ⟨⟨l⟩⟩ := s
      have : l = [] := List.eq_nil_of_length_eq_zero hz
      rw [this]
    have e1 : decN m s = ⟨#[]⟩ := by
      rw [eN, hse]
      have : undotC (tkm m) [] = none := by unfold undotC; split <;> rfl
      show strB (flat (decC (tkm m) [])) = _
      unfold decC
      rw [this]
      rfl
    rw [e1]
    subst hse
    go_enter Tryd.func25, Tryd.ntmps25
    go_wp2
    go_ret
    exact ⟨rfl, hbw _⟩
  have hse : (s.toList == []) = false := by rw [Sy.size_nil]; simpa using hz
  have hcU : ∀ j, cU m s j = ((Go.bits .and .u64 m 33554432 != 0) && (s.toList == dE j)) := fun _ => rfl
  have hdot : ∀ t, undotO m s = some t → decN m s = t := by
    intro t ht
    rw [undotO_is] at ht
    obtain ⟨t', h2, rfl⟩ := Option.map_eq_some_iff.1 ht
    rw [eN]
    unfold decC
    rw [h2]
  have hnone : undotO m s = none → undotC (tkm m) (chars (tl s)) = none := by
    intro ht
    rw [undotO_is] at ht
    exact Option.map_eq_none_iff.1 ht
  obtain ⟨hd, hhd⟩ : ∃ hd, (Go.bits .and .u64 m 33554432 != 0) = hd := ⟨_, rfl⟩
  go_enter Tryd.func25, Tryd.ntmps25
  go_wp2_with (go_at_call 36; refine (dots36' _).mono ?_; rintro e w1 ⟨rfl, hb0, hd0, hs0⟩)
  have hb1 : Below w.heap.size w w1 := (hbw _).trans (hb0.mono (hbw _).size)
  have hs1 : w1.heap.size = w.heap.size + 2 := by rw [hs0]; simp
  have hd1 : w1.heap[w.heap.size + 1]? = some (.cells dotCells 46 (0, 0)) := by simpa using hd0
  have hm1' : w1.heap[w.heap.size]? = some (.cells #[.int .u64 m] 22 (0, 0)) := by rw [hb0.block _ (by simp)]; exact heap_alloc_new w _
  clear hb0 hd0 hs0
  go_loopg [25] 4 (fun gf s25 wx => ∃ i : Nat, s25 = .int .i64 (i : Int) ∧ i ≤ 4 ∧ 4 ≤ i + gf ∧ Below w.heap.size w wx ∧ w.heap.size + 2 ≤ wx.heap.size ∧ wx.heap[w.heap.size]? = some (.cells #[.int .u64 m] 22 (0, 0)) ∧ wx.heap[w.heap.size + 1]? = some (.cells dotCells 46 (0, 0)) ∧ ∀ j, j < i → cU m s j = false)
  case atStart => exact ⟨0, rfl, by omega, by omega, hb1, by omega, hm1', hd1, fun j hj => by omega⟩
  case round =>
    clear hb1 hm1' hd1 hs1
    obtain ⟨i, rfl, hi, hfu, hb, hsz, hmm, hdd, hno⟩ := hrel
    by_cases hi4 : i = 4
    · subst hi4
      go_upto_region 9 with fail
      have hdn := hnone (undot_no hno)
      clear hno hcU hdot hnone hhd hdd hfu hi
      obtain ⟨L, hL⟩ : ∃ L, chars (tl s) = L := ⟨_, rfl⟩
      have hPr : Pr L := by rw [← hL]; exact Pt.pr_chars _
      have hLs : L.length ≤ s.size := by rw [← hL, ← tl_size]; exact chars_len _
      obtain ⟨c0, L0, rfl⟩ : ∃ c0 L0, L = c0 :: L0 := by
        cases L with
        | nil =>
          exfalso
          have h0 := Pt.flat_chars' (tl s)
          rw [hL] at h0
          have h2 := tl_size s
          rw [← h0] at h2
          exact hz h2.symm
        | cons c0 L0 => exact ⟨c0, L0, rfl⟩
      obtain ⟨L, hLL⟩ : ∃ L, c0 :: L0 = L := ⟨_, rfl⟩
      rw [hLL] at hL hPr hLs
      have hLne : 1 ≤ L.length := by rw [← hLL]; simp
      have hu : spec_Units.f s = some (L.map un) := by unfold spec_Units.f; rw [if_pos (by omega), hL]
      have eN2 : decN m s = strB (flat (dleft (tkm m) L).1 ++ flat (dmidA (tkm m) (dright (tkm m) (dleft (tkm m) L).2).1) ++ flat (dright (tkm m) (dleft (tkm m) L).2).2) := by
        rw [eN, hL]
        unfold decC
        rw [← hL, hdn, hL, Pt.flat_append, Pt.flat_append]
        rfl
      have hlen : (L.map un).length = L.length := List.length_map _
      clear eN hdn
      go_upto_block 2 with (go_at_call 37; refine (spec_Units.calls s (L.map un) _ hu).mono ?_; rintro e w2 ⟨v2, rfl, hR2, hb2⟩; obtain ⟨A2, c2, rfl, hc2, hC2⟩ := Kd.R_reads hR2)
      have hcell2 : w2.cell? ⟨w.heap.size, 0, none⟩ = some (.int .u64 m) := (hb2.cell (p := ⟨w.heap.size, 0, none⟩) (by show w.heap.size < wr.heap.size; omega)).trans (by rw [Lib.cell_of_heap hmm]; rfl)
      have hB2 : Below w.heap.size w w2 := hb.trans (hb2.mono (by omega))
      have hz2 : w.heap.size + 2 ≤ w2.heap.size := Nat.le_trans hsz hb2.size
      have hc2' : L.length ≤ c2 := by rw [← hlen]; exact hc2
      clear hR2 hb hmm hsz hb2
      go_cut [7, 8] from 16 (fun v7 v8 wx => ∃ (A7 : Option Addr) (c7 : Nat), v7 = .slice A7 (dleft (tkm m) L).2.length c7 ∧ Kd.C k52 wx A7 ((dleft (tkm m) L).2.map un).length ((dleft (tkm m) L).2.map un) ∧ (dleft (tkm m) L).2.length ≤ c7 ∧ v8 = .string (strB (flat (dleft (tkm m) L).1)) ∧ Below w2.heap.size w2 wx)
      case first =>
        as_aux_lemma =>
          clear hB2 hz2 eN2
          have hPr1 := hPr
          rw [← hLL] at hPr1
          obtain ⟨ad, rfl, y0, y1, y2⟩ := at_T52 hC2 0 (Int.le_refl _) (by rw [hlen]; omega)
          have hrd : rd_T52 (L.map un) 0 = un c0 := by rw [← hLL]; rfl
          rw [hrd] at y0 y1 y2
          simp only [Int.toNat_zero, Nat.zero_mul] at y0 y1 y2
          have had0 : ad.add 0 = ad := by simp [Addr.add]
          rw [had0] at y0 y1 y2
          have hgc := good_le hPr1 (c := c0) (by simp)
          have cS := fun (W : World) (hm : W.cell? ⟨w.heap.size, 0, none⟩ = some (.int .u64 m)) => left51 hm hgc
          have cO := spec_SignOf.calls 2 (un c0).f1 (sgC c0)
          have hv := signOf_un 0 hgc
          rw [Nat.zero_add] at hv
          unfold unV at cS
          obtain ⟨T0, hT0⟩ : ∃ x, (un c0).f0 = x := ⟨_, rfl⟩
          obtain ⟨C0, hC0⟩ : ∃ x, (un c0).f1 = x := ⟨_, rfl⟩
          obtain ⟨Bd0, hBd0⟩ : ∃ x, (un c0).f2 = x := ⟨_, rfl⟩
          rw [hT0, hC0, hBd0] at cS
          rw [hC0] at cO hv
          rw [hT0] at y0
          rw [hC0] at y1
          rw [hBd0] at y2
          clear hT0 hBd0 hrd
          have hi0 : (0 : Int) < (L.length : Int) := by omega
          have hLn : ¬ L = [] := by rw [← hLL]; simp
          have hlc := Pt.dleft_cons (tkm m) c0 L0
          cases hsg : lsign (tkm m).l c0 with
          | some a =>
            obtain ⟨ha1, ha2⟩ := ls_of hsg
            have ha3 := (tkm_ok m).l a ha2
            rw [hsg, hLL] at hlc
            rw [ha1] at cO hv
            rw [hsg, Option.isSome_some] at cS
            have hcv := encode_is (good_of (r := a) (by omega))
            have hV : strB (flat [Ch.g a]) = strB (Lib.encodeRune (a : Int)) := by
              show strB (Lib.encodeRune _ ++ []) = _
              rw [List.append_nil]
            obtain ⟨V, hVV⟩ : ∃ V, strB (Lib.encodeRune (a : Int)) = V := ⟨_, rfl⟩
            rw [hVV] at hcv hV
            obtain ⟨A', hcut, hcC, hcl⟩ := cutN (n := 1) (by rw [hlen]; exact hLne) hc2
            have hC4 := hcC _ hC2
            have hd1 : ((L.map un).drop 1).length = L0.length := by rw [← hLL]; simp
            have hdm : (L.map un).drop 1 = L0.map un := by rw [← hLL]; simp
            have hcut' : ∀ W : World, (Instr.slice 47 (.slice (some ad) L.length c2) (some (.int .i64 1)) none none).run Tryd.prog W = .ok (.slice A' L0.length (c2 - 1)) W := by
              intro W
              have := hcut W
              rw [hlen, hd1] at this
              exact this
            rw [hdm] at hC4
            rw [hd1] at hcl
            clear hsg hVV hcut hcC hd1 hdm hPr hPr1 hgc hC0 ha1 ha2 ha3
            have y1d : ∀ {W : World}, Below w2.heap.size w2 W → W.cell? (ad.add 1) = some (.int .i32 C0) := fun hb => (hb.cell (World.block_lt_of_cell? w2 _ y1)).trans y1
            go_upto_region 12 with (go_at_call 51; refine (cS _ hcell2).mono ?_; rintro e w3 ⟨rfl, hb3⟩)
            have hC5 := Kd.C_below hC4 hb3
            have y3 := (hb3.cell (World.block_lt_of_cell? w2 _ y1)).trans y1
            clear hC2 hC4 cS y0 y1 y2 hlen hu
            refine wp_region_noPanic ?_
            refine wp_region_held_drew (S := (fun w' => w'.cell? ⟨ad.block, ad.off + 1, none⟩ = some (.int .i32 C0))) (by kernel_rfl) ?h101 (fun hHeld => ?k101)
            case h101 => ((try dsimp only); go_keep)
            refine wpAnyH_take (i := 0) (oi := { dst := some 50, op := Go.Op.move (Go.Operand.tmp 7), type := 47, pos := "enc_name.go:108", after := #[], guard := none }) (v := ?v102) rfl (by kernel_rfl) (by kernel_rfl) (by kernel_rfl) (fun _ _ _ h => h) (Or.inl ⟨by rfl, ?y102⟩) (by assumption) ?r102
            case y102 => (intro w hSw; (try dsimp only at hSw); first | (go_simp; done) | (go_simp; with_reducible rfl))
            try simp only [Act.put, List.setIfInBounds_toArray, List.set_cons_zero, List.set_cons_succ]
            refine wpAnyH_take (i := 1) (oi := { dst := some 51, op := Go.Op.slice 47 (Go.Operand.tmp 50) (some (Go.Operand.const (Go.Value.int Go.IntKind.i64 1))) none none, type := 47, pos := "enc_name.go:108", after := #[{ on := 0, ground := Go.Ground.data }], guard := none }) (v := .slice A' L0.length (c2 - 1)) rfl (by kernel_rfl) (by kernel_rfl) (by kernel_rfl) (fun _ _ _ h => h) (Or.inl ⟨by rfl, ?y103⟩) (by assumption) ?r103
            case y103 => (intro w hSw; (try dsimp only at hSw); first | (go_simp; done) | (go_simp; with_reducible rfl))
            try simp only [Act.put, List.setIfInBounds_toArray, List.set_cons_zero, List.set_cons_succ]
            refine wpAnyH_take (i := 2) (oi := { dst := some 52, op := Go.Op.move (Go.Operand.tmp 7), type := 47, pos := "enc_name.go:108", after := #[], guard := none }) (v := ?v104) rfl (by kernel_rfl) (by kernel_rfl) (by kernel_rfl) (fun _ _ _ h => h) (Or.inl ⟨by rfl, ?y104⟩) (by assumption) ?r104
            case y104 => (intro w hSw; (try dsimp only at hSw); first | (go_simp; done) | (go_simp; with_reducible rfl))
            try simp only [Act.put, List.setIfInBounds_toArray, List.set_cons_zero, List.set_cons_succ]
            refine wpAnyH_take (i := 3) (oi := { dst := some 53, op := Go.Op.indexAddr 47 (Go.Operand.tmp 52) (Go.Operand.const (Go.Value.int Go.IntKind.i64 0)), type := 0, pos := "enc_name.go:108", after := #[{ on := 2, ground := Go.Ground.data }], guard := none }) (v := .pointer (some ad)) rfl (by kernel_rfl) (by kernel_rfl) (by kernel_rfl) (fun _ _ _ h => h) (Or.inl ⟨by rfl, ?y105⟩) (by assumption) ?r105
            case y105 => (intro w hSw; (try dsimp only at hSw); first | (go_simp; done) | (go_simp; with_reducible rfl))
            try simp only [Act.put, List.setIfInBounds_toArray, List.set_cons_zero, List.set_cons_succ]
            refine wpAnyH_take (i := 4) (oi := { dst := some 54, op := Go.Op.fieldAddr 52 (Go.Operand.tmp 53) 1, type := 0, pos := "enc_name.go:108", after := #[{ on := 3, ground := Go.Ground.data }], guard := none }) (v := ?v106) rfl (by kernel_rfl) (by kernel_rfl) (by kernel_rfl) (fun _ _ _ h => h) (Or.inl ⟨by rfl, ?y106⟩) (by assumption) ?r106
            case y106 => (intro w hSw; (try dsimp only at hSw); first | (go_simp; done) | (go_simp; with_reducible rfl))
            try simp only [Act.put, List.setIfInBounds_toArray, List.set_cons_zero, List.set_cons_succ]
            refine wpAnyH_take (i := 5) (oi := { dst := some 55, op := Go.Op.load 21 (Go.Operand.tmp 54), type := 21, pos := "enc_name.go:108", after := #[{ on := 4, ground := Go.Ground.data }], guard := none }) (v := ?v107) rfl (by kernel_rfl) (by kernel_rfl) (by kernel_rfl) (fun _ _ _ h => h) (Or.inl ⟨by rfl, ?y107⟩) (by assumption) ?r107
            case y107 => (intro w hSw; (try dsimp only at hSw); first | (go_simp; done) | (go_simp; with_reducible rfl))
            try simp only [Act.put, List.setIfInBounds_toArray, List.set_cons_zero, List.set_cons_succ]
            refine wpAnyH_ready (rs := [6]) (by kernel_rfl) (by simp) ?_
            refine AllReadyH.cons (o := { dst := some 56, op := Go.Op.call { callee := Go.Callee.value (Go.Operand.func 45), args := #[Go.Operand.tmp 55], argTypes := #[21] }, type := 21, pos := "enc_name.go:108", after := #[{ on := 5, ground := Go.Ground.data }], guard := none }) rfl (fun K hK => ?s108) ?m108
            case m108 => exact AllReadyH.nil
            go_simp; go_at_call 45; refine (cO _ hv).mono ?_; rintro e w1 ⟨rfl, ⟨n, rfl⟩⟩
            refine hK.out _ _ ?h108 (fun hHeld => ?k108)
            case h108 => ((try dsimp only); go_keep)
            clear hK K
            try simp only [Act.put, List.setIfInBounds_toArray, List.set_cons_zero, List.set_cons_succ]
            refine wpAnyH_take (i := 7) (oi := { dst := some 57, op := Go.Op.convert 21 9 (Go.Operand.tmp 56), type := 9, pos := "enc_name.go:108", after := #[{ on := 6, ground := Go.Ground.data }, { on := 8, ground := Go.Ground.gcOnly Go.Departure.lateStores }], guard := none }) (v := .string V) rfl (by kernel_rfl) (by kernel_rfl) (by kernel_rfl) (fun _ _ _ h => h) (Or.inl ⟨by rfl, ?y109⟩) (by assumption) ?r109
            case y109 => (intro w hSw; (try dsimp only at hSw); first | (go_simp; done) | (go_simp; with_reducible rfl))
            try simp only [Act.put, List.setIfInBounds_toArray, List.set_cons_zero, List.set_cons_succ]
            refine wpAnyH_take (i := 8) (oi := { dst := some 7, op := Go.Op.assign (Go.Operand.tmp 51), type := 47, pos := "enc_name.go:108", after := #[{ on := 1, ground := Go.Ground.data }, { on := 6, ground := Go.Ground.chain }, { on := 0, ground := Go.Ground.phase }, { on := 1, ground := Go.Ground.phase }, { on := 2, ground := Go.Ground.phase }, { on := 3, ground := Go.Ground.textOnly Go.Departure.lateStoresUnsure }, { on := 4, ground := Go.Ground.textOnly Go.Departure.lateStoresUnsure }, { on := 5, ground := Go.Ground.textOnly Go.Departure.lateStoresUnsure }, { on := 6, ground := Go.Ground.textOnly Go.Departure.lateStoresUnsure }, { on := 7, ground := Go.Ground.textOnly Go.Departure.lateStores }], guard := none }) (v := ?v110) rfl (by kernel_rfl) (by kernel_rfl) (by kernel_rfl) (fun _ _ _ h => h) (Or.inl ⟨by rfl, ?y110⟩) (by assumption) ?r110
            case y110 => (intro w hSw; (try dsimp only at hSw); first | (go_simp; done) | (go_simp; with_reducible rfl))
            try simp only [Act.put, List.setIfInBounds_toArray, List.set_cons_zero, List.set_cons_succ]
            refine wpAnyH_take (i := 9) (oi := { dst := some 8, op := Go.Op.assign (Go.Operand.tmp 57), type := 9, pos := "enc_name.go:108", after := #[{ on := 7, ground := Go.Ground.data }, { on := 8, ground := Go.Ground.chain }, { on := 0, ground := Go.Ground.phase }, { on := 1, ground := Go.Ground.phase }, { on := 2, ground := Go.Ground.phase }, { on := 3, ground := Go.Ground.phase }, { on := 4, ground := Go.Ground.phase }, { on := 5, ground := Go.Ground.phase }, { on := 6, ground := Go.Ground.phase }, { on := 7, ground := Go.Ground.phase }, { on := 8, ground := Go.Ground.phase }], guard := none }) (v := ?v111) rfl (by kernel_rfl) (by kernel_rfl) (by kernel_rfl) (fun _ _ _ h => h) (Or.inl ⟨by rfl, ?y111⟩) (by assumption) ?r111
            case y111 => (intro w hSw; (try dsimp only at hSw); first | (go_simp; done) | (go_simp; with_reducible rfl))
            try simp only [Act.put, List.setIfInBounds_toArray, List.set_cons_zero, List.set_cons_succ]
            refine wpAnyH_done (by kernel_rfl) ?_ _
            refine NoPanic.normal ?_
            all_goals go_wp2
            all_goals go_meet
            case rel => rw [hlc]; exact ⟨_, _, rfl, Kd.C_below hC5 (below_drewN' (below_drewN' (Below.refl _ _) 1) _), hcl, by rw [hV], hb3.trans (below_drewN' (below_drewN' (Below.refl _ _) 1) _)⟩
          | none =>
            rw [hsg] at hlc
            dsimp only at hlc
            rw [hsg, Option.isSome_none] at cS
            clear hsg cO hv
            obtain ⟨n0, hn0⟩ : ∃ n0, L.length = n0 := ⟨_, rfl⟩
            rw [hn0] at hc2' hi0 hlen ⊢
            go_upto_region 13 with (go_at_call 51; refine (cS _ hcell2).mono ?_; rintro e w3 ⟨rfl, hb3⟩)
            have hC3 := Kd.C_below hC2 hb3
            have hcell3 := (hb3.cell (World.block_lt_of_cell? w2 _ hcell2)).trans hcell2
            have x1 := (hb3.cell (World.block_lt_of_cell? w2 _ y1)).trans y1
            cases L0 with
            | nil =>
              rw [hLL] at hlc
              have hgt : ¬ ((n0 : Int) > 1) := by rw [← hn0, ← hLL]; simp
              clear cS y0 y1 y2 hu hC2 hcell2
              go_wp2_with fail
              go_meet
              case rel => rw [hlc]; exact ⟨_, _, by rw [hn0], hC3, by rw [hn0]; exact hc2', rfl, hb3⟩
            | cons d L1 =>
              dsimp only at hlc
              have hgt : (n0 : Int) > 1 := by rw [← hn0, ← hLL]; simp; omega
              by_cases hq : c0 = qt
              · have c1 : (C0 == 8219) = true := by rw [beq_iff_eq, ← hC0, un_qt]; exact hq
                obtain ⟨ad', e', z0, z1, z2⟩ := at_T52 hC3 1 (by omega) (by rw [hlen]; omega)
                cases e'
                have hrd : rd_T52 (L.map un) 1 = un d := by rw [← hLL]; rfl
                rw [hrd] at z0 z1 z2
                simp only [show (1 : Int).toNat = 1 from rfl, Nat.one_mul] at z0 z1 z2
                have hgd := good_le hPr1 (c := d) (by simp)
                have cD := left51 hcell3 hgd
                unfold unV at cD
                obtain ⟨T1, hT⟩ : ∃ x, (un d).f0 = x := ⟨_, rfl⟩
                obtain ⟨C1, hC1⟩ : ∃ x, (un d).f1 = x := ⟨_, rfl⟩
                obtain ⟨Bd1, hBd1⟩ : ∃ x, (un d).f2 = x := ⟨_, rfl⟩
                rw [hT, hC1, hBd1] at cD
                rw [hT] at z0
                have hV : strB (flat [d]) = T1 := by
                  rw [← hT, un_f0]
                  show strB (d.by ++ []) = _
                  rw [List.append_nil]
                rw [hC1] at z1
                rw [hBd1] at z2
                clear hrd hC1 hBd1 hT
                have u0 : w3.cell? ⟨ad.block, ad.off + 3, none⟩ = some (.string T1) := by simpa [Addr.add] using z0
                have u1 : w3.cell? ⟨ad.block, ad.off + 3 + 1, none⟩ = some (.int .i32 C1) := by simpa [Addr.add] using z1
                have u2 : w3.cell? ⟨ad.block, ad.off + 3 + 2, none⟩ = some (.bool Bd1) := by simpa [Addr.add] using z2
                clear z0 z1 z2
                cases hsd : lsign (tkm m).l d with
                | none =>
                  rw [hsd, Option.isSome_none] at cD
                  rw [if_neg (by rw [hsd]; simp), hLL] at hlc
                  clear cS y0 y1 y2 hu hC2 hcell2 hsd
                  go_wp2_with (go_at_call 51; refine cD.mono ?_; rintro e w4 ⟨rfl, hb4⟩)
                  go_meet
                  case rel => rw [hlc]; exact ⟨_, _, by rw [hn0], Kd.C_below hC3 hb4, by rw [hn0]; exact hc2', rfl, hb3.trans (hb4.mono hb3.size)⟩
                | some a =>
                  rw [hsd, Option.isSome_some] at cD
                  rw [if_pos ⟨hq, by rw [hsd]; rfl⟩, hLL] at hlc
                  obtain ⟨A', hcut, hcC, hcl⟩ := cutN (A := some ad) (c := c2) (xs := L.map un) (n := 2) (by rw [hlen]; omega) (by rw [hlen]; exact hc2')
                  have hC4 := hcC _ hC3
                  have hd1 : ((L.map un).drop 2).length = L1.length := by rw [← hLL]; simp
                  have hdm : (L.map un).drop 2 = L1.map un := by rw [← hLL]; simp
                  have hcut' : ∀ W : World, (Instr.slice 47 (.slice (some ad) n0 c2) (some (.int .i64 2)) none none).run Tryd.prog W = .ok (.slice A' L1.length (c2 - 2)) W := by
                    intro W
                    have := hcut W
                    rw [hlen, hd1] at this
                    exact this
                  rw [hdm] at hC4
                  rw [hd1] at hcl
                  clear cS y0 y1 y2 hu hC2 hcell2 hsd hcut hcC hd1 hdm
                  go_upto_region 14 with (go_at_call 51; refine cD.mono ?_; rintro e w4 ⟨rfl, hb4⟩)
                  have hC5 := Kd.C_below hC4 hb4
                  have z4 := (hb4.cell (World.block_lt_of_cell? w3 _ u0)).trans u0
                  have hb5 := hb3.trans (hb4.mono hb3.size)
                  clear cD u0 u1 u2 hC3 hC4
                  refine wp_region_noPanic ?_
                  refine wp_region_held_drew (S := (fun w' => w'.cell? ⟨ad.block, ad.off + 3, none⟩ = some (.string T1))) (by kernel_rfl) ?h201 (fun hHeld => ?k201)
                  case h201 => ((try dsimp only); go_keep)
                  refine wpAnyH_take (i := 0) (oi := { dst := some 76, op := Go.Op.move (Go.Operand.tmp 7), type := 47, pos := "enc_name.go:110", after := #[], guard := none }) (v := ?v202) rfl (by kernel_rfl) (by kernel_rfl) (by kernel_rfl) (fun _ _ _ h => h) (Or.inl ⟨by rfl, ?y202⟩) (by assumption) ?r202
                  case y202 => (intro w hSw; (try dsimp only at hSw); first | (go_simp; done) | (go_simp; with_reducible rfl))
                  try simp only [Act.put, List.setIfInBounds_toArray, List.set_cons_zero, List.set_cons_succ]
                  refine wpAnyH_take (i := 1) (oi := { dst := some 77, op := Go.Op.slice 47 (Go.Operand.tmp 76) (some (Go.Operand.const (Go.Value.int Go.IntKind.i64 2))) none none, type := 47, pos := "enc_name.go:110", after := #[{ on := 0, ground := Go.Ground.data }], guard := none }) (v := .slice A' L1.length (c2 - 2)) rfl (by kernel_rfl) (by kernel_rfl) (by kernel_rfl) (fun _ _ _ h => h) (Or.inl ⟨by rfl, ?y203⟩) (by assumption) ?r203
                  case y203 => (intro w hSw; (try dsimp only at hSw); first | (go_simp; done) | (go_simp; with_reducible rfl))
                  try simp only [Act.put, List.setIfInBounds_toArray, List.set_cons_zero, List.set_cons_succ]
                  refine wpAnyH_take (i := 2) (oi := { dst := some 78, op := Go.Op.move (Go.Operand.tmp 7), type := 47, pos := "enc_name.go:110", after := #[], guard := none }) (v := ?v204) rfl (by kernel_rfl) (by kernel_rfl) (by kernel_rfl) (fun _ _ _ h => h) (Or.inl ⟨by rfl, ?y204⟩) (by assumption) ?r204
                  case y204 => (intro w hSw; (try dsimp only at hSw); first | (go_simp; done) | (go_simp; with_reducible rfl))
                  try simp only [Act.put, List.setIfInBounds_toArray, List.set_cons_zero, List.set_cons_succ]
                  refine wpAnyH_take (i := 3) (oi := { dst := some 79, op := Go.Op.indexAddr 47 (Go.Operand.tmp 78) (Go.Operand.const (Go.Value.int Go.IntKind.i64 1)), type := 0, pos := "enc_name.go:110", after := #[{ on := 2, ground := Go.Ground.data }], guard := none }) (v := ?v205) rfl (by kernel_rfl) (by kernel_rfl) (by kernel_rfl) (fun _ _ _ h => h) (Or.inl ⟨by rfl, ?y205⟩) (by assumption) ?r205
                  case y205 => (intro w hSw; (try dsimp only at hSw); first | (go_simp; done) | (go_simp; with_reducible rfl))
                  try simp only [Act.put, List.setIfInBounds_toArray, List.set_cons_zero, List.set_cons_succ]
                  refine wpAnyH_take (i := 4) (oi := { dst := some 80, op := Go.Op.fieldAddr 52 (Go.Operand.tmp 79) 0, type := 0, pos := "enc_name.go:110", after := #[{ on := 3, ground := Go.Ground.data }], guard := none }) (v := ?v206) rfl (by kernel_rfl) (by kernel_rfl) (by kernel_rfl) (fun _ _ _ h => h) (Or.inl ⟨by rfl, ?y206⟩) (by assumption) ?r206
                  case y206 => (intro w hSw; (try dsimp only at hSw); first | (go_simp; done) | (go_simp; with_reducible rfl))
                  try simp only [Act.put, List.setIfInBounds_toArray, List.set_cons_zero, List.set_cons_succ]
                  refine wpAnyH_take (i := 5) (oi := { dst := some 81, op := Go.Op.load 9 (Go.Operand.tmp 80), type := 9, pos := "enc_name.go:110", after := #[{ on := 4, ground := Go.Ground.data }], guard := none }) (v := ?v207) rfl (by kernel_rfl) (by kernel_rfl) (by kernel_rfl) (fun _ _ _ h => h) (Or.inl ⟨by rfl, ?y207⟩) (by assumption) ?r207
                  case y207 => (intro w hSw; (try dsimp only at hSw); first | (go_simp; done) | (go_simp; with_reducible rfl))
                  try simp only [Act.put, List.setIfInBounds_toArray, List.set_cons_zero, List.set_cons_succ]
                  refine wpAnyH_take (i := 6) (oi := { dst := some 7, op := Go.Op.assign (Go.Operand.tmp 77), type := 47, pos := "enc_name.go:110", after := #[{ on := 1, ground := Go.Ground.data }, { on := 0, ground := Go.Ground.phase }, { on := 1, ground := Go.Ground.phase }, { on := 2, ground := Go.Ground.phase }, { on := 3, ground := Go.Ground.textOnly Go.Departure.lateStoresUnsure }, { on := 4, ground := Go.Ground.textOnly Go.Departure.lateStoresUnsure }, { on := 5, ground := Go.Ground.textOnly Go.Departure.lateStoresUnsure }], guard := none }) (v := ?v208) rfl (by kernel_rfl) (by kernel_rfl) (by kernel_rfl) (fun _ _ _ h => h) (Or.inl ⟨by rfl, ?y208⟩) (by assumption) ?r208
                  case y208 => (intro w hSw; (try dsimp only at hSw); first | (go_simp; done) | (go_simp; with_reducible rfl))
                  try simp only [Act.put, List.setIfInBounds_toArray, List.set_cons_zero, List.set_cons_succ]
                  refine wpAnyH_take (i := 7) (oi := { dst := some 8, op := Go.Op.assign (Go.Operand.tmp 81), type := 9, pos := "enc_name.go:110", after := #[{ on := 5, ground := Go.Ground.data }, { on := 6, ground := Go.Ground.chain }, { on := 0, ground := Go.Ground.phase }, { on := 1, ground := Go.Ground.phase }, { on := 2, ground := Go.Ground.phase }, { on := 3, ground := Go.Ground.phase }, { on := 4, ground := Go.Ground.phase }, { on := 5, ground := Go.Ground.phase }, { on := 6, ground := Go.Ground.phase }], guard := none }) (v := ?v209) rfl (by kernel_rfl) (by kernel_rfl) (by kernel_rfl) (fun _ _ _ h => h) (Or.inl ⟨by rfl, ?y209⟩) (by assumption) ?r209
                  case y209 => (intro w hSw; (try dsimp only at hSw); first | (go_simp; done) | (go_simp; with_reducible rfl))
                  try simp only [Act.put, List.setIfInBounds_toArray, List.set_cons_zero, List.set_cons_succ]
                  refine wpAnyH_done (by kernel_rfl) ?_ _
                  refine NoPanic.normal ?_
                  go_wp2
                  go_meet
                  case rel => rw [hlc]; exact ⟨_, _, rfl, Kd.C_below hC5 (below_drewN' (Below.refl _ _) 1), hcl, by rw [hV], hb5.trans (below_drewN' ((Below.refl _ _).mono hb5.size) 1)⟩
              · have c1 : (C0 == 8219) = false := by rw [beq_eq_false_iff_ne, ne_eq, ← hC0, un_qt]; exact hq
                rw [if_neg (fun h => hq h.1), hLL] at hlc
                clear cS y0 y1 y2 hu hC2 hcell2
                go_wp2_with fail
                go_meet
                case rel => rw [hlc]; exact ⟨_, _, by rw [hn0], hC3, by rw [hn0]; exact hc2', rfl, hb3⟩
      case rest =>
        obtain ⟨A7, c7, rfl, hC7, hc7, rfl, hb7⟩ := hcut
        obtain ⟨w3, rfl⟩ : ∃ W : World, W = wc := ⟨_, rfl⟩
        have hB3 : Below w.heap.size w w3 := hB2.trans (hb7.mono (by omega))
        have hz3 : w.heap.size + 2 ≤ w3.heap.size := Nat.le_trans hz2 hb7.size
        have hcell3 : w3.cell? ⟨w.heap.size, 0, none⟩ = some (.int .u64 m) := (hb7.cell (World.block_lt_of_cell? w2 _ hcell2)).trans hcell2
        have hPr2 : Pr (dleft (tkm m) L).2 := dleft_pr hPr
        have hRs := (dleft_len (tkm m) L).1
        have hHs : (strB (flat (dleft (tkm m) L).1)).size ≤ 100 := by
          have h1 := (dleft_len (tkm m) L).2
          have h2 := flat_len (dleft (tkm m) L).1
          have h3 : (strB (flat (dleft (tkm m) L).1)).size = _ := Sy.size_strB _
          omega
        clear hC2 hc2 hc2' hLL hlen hb7 hB2 hz2 hcell2 hu
        obtain ⟨R, hR⟩ : ∃ R, (dleft (tkm m) L).2 = R := ⟨_, rfl⟩
        obtain ⟨V, hV⟩ : ∃ V, (dleft (tkm m) L).1 = V := ⟨_, rfl⟩
        rw [hR] at hC7 hc7 hPr2 hRs eN2
        rw [hV] at eN2 hHs
        rw [hR, hV]
        clear hR hV hPr hLne
        have hlen : (R.map un).length = R.length := List.length_map _
        obtain ⟨n1, hn1⟩ : ∃ n1, R.length = n1 := ⟨_, rfl⟩
        rw [hn1] at hc7 hlen hRs ⊢
        go_upto_region 16 with fail
        have hcO : ∀ c : Ch, (∀ r, c = .g r → r ≤ 1114111) → ∀ W : World, Calls Tryd.prog 45 #[.int .i32 (un c).f1] W fun e w' => e = .returned (.int .i32 (sgC c)) ∧ Drawn0 W w' := fun c h W => spec_SignOf.calls 2 (un c).f1 (sgC c) W (by have := signOf_un 0 h; rwa [Nat.zero_add] at this)
        go_cut [106] (fun v106 wx => v106 = .bool (rB (tkm m) R) ∧ Below w3.heap.size w3 wx)
        case first =>
          as_aux_lemma =>
            by_cases hRn : R = []
            · subst hRn
              have hn : n1 = 0 := by rw [← hn1]; rfl
              have hgt : ¬ ((n1 : Int) > 0) := by omega
              have hr : rB (tkm m) [] = false := rfl
              clear eN2 hn hn1 hC7
              refine wp_region_noPanic ?_
              refine wp_region_held_drew (S := (fun _ => True)) (by kernel_rfl) ?h301 (fun hHeld => ?k301)
              case h301 => ((try dsimp only); all_goals trivial)
              refine wpAnyH_take (i := 0) (oi := { dst := some 84, op := Go.Op.move (Go.Operand.tmp 11), type := 3, pos := "enc_name.go:112", after := #[], guard := none }) (v := ?v302) rfl (by kernel_rfl) (by kernel_rfl) (by kernel_rfl) (fun _ _ _ h => h) (Or.inl ⟨by rfl, ?y302⟩) (by assumption) ?r302
              case y302 => (intro w hSw; (try dsimp only at hSw); first | (go_simp; done) | (go_simp; with_reducible rfl))
              try simp only [Act.put, List.setIfInBounds_toArray, List.set_cons_zero, List.set_cons_succ]
              refine wpAnyH_take (i := 1) (oi := { dst := some 85, op := Go.Op.binOp Go.BinOp.gtr 3 (Go.Operand.tmp 84) (Go.Operand.const (Go.Value.int Go.IntKind.i64 0)) 3, type := 4, pos := "enc_name.go:112", after := #[{ on := 0, ground := Go.Ground.data }], guard := none }) (v := .bool false) rfl (by kernel_rfl) (by kernel_rfl) (by kernel_rfl) (fun _ _ _ h => h) (Or.inl ⟨by rfl, ?y303⟩) (by assumption) ?r303
              case y303 => (intro w hSw; go_simp; first | done | omega)
              try simp only [Act.put, List.setIfInBounds_toArray, List.set_cons_zero, List.set_cons_succ]
              refine wpAnyH_take (i := 2) (oi := { dst := some 86, op := Go.Op.move (Go.Operand.tmp 85), type := 4, pos := "enc_name.go:112", after := #[{ on := 1, ground := Go.Ground.data }], guard := none }) (v := ?v304) rfl (by kernel_rfl) (by kernel_rfl) (by kernel_rfl) (fun _ _ _ h => h) (Or.inl ⟨by rfl, ?y304⟩) (by assumption) ?r304
              case y304 => (intro w hSw; (try dsimp only at hSw); first | (go_simp; done) | (go_simp; with_reducible rfl))
              try simp only [Act.put, List.setIfInBounds_toArray, List.set_cons_zero, List.set_cons_succ]
              refine wpAnyH_take (i := 3) (oi := { dst := some 87, op := Go.Op.move (Go.Operand.tmp 7), type := 47, pos := "enc_name.go:112", after := #[{ on := 2, ground := Go.Ground.guard }], guard := some (2, true) }) (v := undef) rfl (by kernel_rfl) (by kernel_rfl) (by kernel_rfl) (fun _ _ _ h => h) (Or.inr ⟨by rfl, rfl⟩) (by assumption) ?r305
              try simp only [Act.put, List.setIfInBounds_toArray, List.set_cons_zero, List.set_cons_succ]
              refine wpAnyH_take (i := 4) (oi := { dst := some 88, op := Go.Op.move (Go.Operand.tmp 11), type := 3, pos := "enc_name.go:112", after := #[{ on := 2, ground := Go.Ground.guard }], guard := some (2, true) }) (v := undef) rfl (by kernel_rfl) (by kernel_rfl) (by kernel_rfl) (fun _ _ _ h => h) (Or.inr ⟨by rfl, rfl⟩) (by assumption) ?r306
              try simp only [Act.put, List.setIfInBounds_toArray, List.set_cons_zero, List.set_cons_succ]
              refine wpAnyH_take (i := 5) (oi := { dst := some 89, op := Go.Op.binOp Go.BinOp.sub 3 (Go.Operand.tmp 88) (Go.Operand.const (Go.Value.int Go.IntKind.i64 1)) 3, type := 3, pos := "enc_name.go:112", after := #[{ on := 4, ground := Go.Ground.data }, { on := 2, ground := Go.Ground.guard }], guard := some (2, true) }) (v := undef) rfl (by kernel_rfl) (by kernel_rfl) (by kernel_rfl) (fun _ _ _ h => h) (Or.inr ⟨by rfl, rfl⟩) (by assumption) ?r307
              try simp only [Act.put, List.setIfInBounds_toArray, List.set_cons_zero, List.set_cons_succ]
              refine wpAnyH_take (i := 6) (oi := { dst := some 90, op := Go.Op.indexAddr 47 (Go.Operand.tmp 87) (Go.Operand.tmp 89), type := 0, pos := "enc_name.go:112", after := #[{ on := 3, ground := Go.Ground.data }, { on := 5, ground := Go.Ground.data }, { on := 2, ground := Go.Ground.guard }], guard := some (2, true) }) (v := undef) rfl (by kernel_rfl) (by kernel_rfl) (by kernel_rfl) (fun _ _ _ h => h) (Or.inr ⟨by rfl, rfl⟩) (by assumption) ?r308
              try simp only [Act.put, List.setIfInBounds_toArray, List.set_cons_zero, List.set_cons_succ]
              refine wpAnyH_take (i := 7) (oi := { dst := some 91, op := Go.Op.fieldAddr 52 (Go.Operand.tmp 90) 1, type := 0, pos := "enc_name.go:112", after := #[{ on := 6, ground := Go.Ground.data }, { on := 2, ground := Go.Ground.guard }], guard := some (2, true) }) (v := undef) rfl (by kernel_rfl) (by kernel_rfl) (by kernel_rfl) (fun _ _ _ h => h) (Or.inr ⟨by rfl, rfl⟩) (by assumption) ?r309
              try simp only [Act.put, List.setIfInBounds_toArray, List.set_cons_zero, List.set_cons_succ]
              refine wpAnyH_take (i := 8) (oi := { dst := some 92, op := Go.Op.load 21 (Go.Operand.tmp 91), type := 21, pos := "enc_name.go:112", after := #[{ on := 7, ground := Go.Ground.data }, { on := 2, ground := Go.Ground.guard }], guard := some (2, true) }) (v := undef) rfl (by kernel_rfl) (by kernel_rfl) (by kernel_rfl) (fun _ _ _ h => h) (Or.inr ⟨by rfl, rfl⟩) (by assumption) ?r310
              try simp only [Act.put, List.setIfInBounds_toArray, List.set_cons_zero, List.set_cons_succ]
              refine wpAnyH_take (i := 9) (oi := { dst := some 93, op := Go.Op.call { callee := Go.Callee.value (Go.Operand.func 45), args := #[Go.Operand.tmp 92], argTypes := #[21] }, type := 21, pos := "enc_name.go:112", after := #[{ on := 8, ground := Go.Ground.data }, { on := 2, ground := Go.Ground.chain }, { on := 2, ground := Go.Ground.guard }], guard := some (2, true) }) (v := undef) rfl (by kernel_rfl) (by kernel_rfl) (by kernel_rfl) (fun _ _ _ h => h) (Or.inr ⟨by rfl, rfl⟩) (by assumption) ?r311
              try simp only [Act.put, List.setIfInBounds_toArray, List.set_cons_zero, List.set_cons_succ]
              refine wpAnyH_take (i := 10) (oi := { dst := some 94, op := Go.Op.binOp Go.BinOp.geq 21 (Go.Operand.tmp 93) (Go.Operand.const (Go.Value.int Go.IntKind.i32 0)) 21, type := 4, pos := "enc_name.go:112", after := #[{ on := 9, ground := Go.Ground.data }, { on := 2, ground := Go.Ground.guard }], guard := some (2, true) }) (v := undef) rfl (by kernel_rfl) (by kernel_rfl) (by kernel_rfl) (fun _ _ _ h => h) (Or.inr ⟨by rfl, rfl⟩) (by assumption) ?r312
              try simp only [Act.put, List.setIfInBounds_toArray, List.set_cons_zero, List.set_cons_succ]
              refine wpAnyH_take (i := 11) (oi := { dst := some 95, op := Go.Op.pick (Go.Operand.tmp 86) (Go.Operand.tmp 94) (Go.Operand.const (Go.Value.bool false)), type := 4, pos := "enc_name.go:112", after := #[{ on := 2, ground := Go.Ground.data }, { on := 10, ground := Go.Ground.data }], guard := none }) (v := ?v313) rfl (by kernel_rfl) (by kernel_rfl) (by kernel_rfl) (fun _ _ _ h => h) (Or.inl ⟨by rfl, ?y313⟩) (by assumption) ?r313
              case y313 => (intro w hSw; (try dsimp only at hSw); first | (go_simp; done) | (go_simp; with_reducible rfl))
              try simp only [Act.put, List.setIfInBounds_toArray, List.set_cons_zero, List.set_cons_succ]
              refine wpAnyH_take (i := 12) (oi := { dst := some 96, op := Go.Op.move (Go.Operand.tmp 95), type := 4, pos := "enc_name.go:112", after := #[{ on := 11, ground := Go.Ground.data }, { on := 9, ground := Go.Ground.chain }], guard := none }) (v := ?v314) rfl (by kernel_rfl) (by kernel_rfl) (by kernel_rfl) (fun _ _ _ h => h) (Or.inl ⟨by rfl, ?y314⟩) (by assumption) ?r314
              case y314 => (intro w hSw; (try dsimp only at hSw); first | (go_simp; done) | (go_simp; with_reducible rfl))
              try simp only [Act.put, List.setIfInBounds_toArray, List.set_cons_zero, List.set_cons_succ]
              refine wpAnyH_take (i := 13) (oi := { dst := some 97, op := Go.Op.load 22 (Go.Operand.tmp 2), type := 22, pos := "enc_name.go:112", after := #[{ on := 12, ground := Go.Ground.guard }], guard := some (12, true) }) (v := undef) rfl (by kernel_rfl) (by kernel_rfl) (by kernel_rfl) (fun _ _ _ h => h) (Or.inr ⟨by rfl, rfl⟩) (by assumption) ?r315
              try simp only [Act.put, List.setIfInBounds_toArray, List.set_cons_zero, List.set_cons_succ]
              refine wpAnyH_take (i := 14) (oi := { dst := some 98, op := Go.Op.move (Go.Operand.tmp 7), type := 47, pos := "enc_name.go:112", after := #[{ on := 12, ground := Go.Ground.guard }], guard := some (12, true) }) (v := undef) rfl (by kernel_rfl) (by kernel_rfl) (by kernel_rfl) (fun _ _ _ h => h) (Or.inr ⟨by rfl, rfl⟩) (by assumption) ?r316
              try simp only [Act.put, List.setIfInBounds_toArray, List.set_cons_zero, List.set_cons_succ]
              refine wpAnyH_take (i := 15) (oi := { dst := some 99, op := Go.Op.move (Go.Operand.tmp 11), type := 3, pos := "enc_name.go:112", after := #[{ on := 12, ground := Go.Ground.guard }], guard := some (12, true) }) (v := undef) rfl (by kernel_rfl) (by kernel_rfl) (by kernel_rfl) (fun _ _ _ h => h) (Or.inr ⟨by rfl, rfl⟩) (by assumption) ?r317
              try simp only [Act.put, List.setIfInBounds_toArray, List.set_cons_zero, List.set_cons_succ]
              refine wpAnyH_take (i := 16) (oi := { dst := some 100, op := Go.Op.binOp Go.BinOp.sub 3 (Go.Operand.tmp 99) (Go.Operand.const (Go.Value.int Go.IntKind.i64 1)) 3, type := 3, pos := "enc_name.go:112", after := #[{ on := 15, ground := Go.Ground.data }, { on := 12, ground := Go.Ground.guard }], guard := some (12, true) }) (v := undef) rfl (by kernel_rfl) (by kernel_rfl) (by kernel_rfl) (fun _ _ _ h => h) (Or.inr ⟨by rfl, rfl⟩) (by assumption) ?r318
              try simp only [Act.put, List.setIfInBounds_toArray, List.set_cons_zero, List.set_cons_succ]
              refine wpAnyH_take (i := 17) (oi := { dst := some 101, op := Go.Op.indexAddr 47 (Go.Operand.tmp 98) (Go.Operand.tmp 100), type := 0, pos := "enc_name.go:112", after := #[{ on := 14, ground := Go.Ground.data }, { on := 16, ground := Go.Ground.data }, { on := 12, ground := Go.Ground.guard }], guard := some (12, true) }) (v := undef) rfl (by kernel_rfl) (by kernel_rfl) (by kernel_rfl) (fun _ _ _ h => h) (Or.inr ⟨by rfl, rfl⟩) (by assumption) ?r319
              try simp only [Act.put, List.setIfInBounds_toArray, List.set_cons_zero, List.set_cons_succ]
              refine wpAnyH_take (i := 18) (oi := { dst := some 102, op := Go.Op.fieldAddr 52 (Go.Operand.tmp 101) 1, type := 0, pos := "enc_name.go:112", after := #[{ on := 17, ground := Go.Ground.data }, { on := 12, ground := Go.Ground.guard }], guard := some (12, true) }) (v := undef) rfl (by kernel_rfl) (by kernel_rfl) (by kernel_rfl) (fun _ _ _ h => h) (Or.inr ⟨by rfl, rfl⟩) (by assumption) ?r320
              try simp only [Act.put, List.setIfInBounds_toArray, List.set_cons_zero, List.set_cons_succ]
              refine wpAnyH_take (i := 19) (oi := { dst := some 103, op := Go.Op.load 21 (Go.Operand.tmp 102), type := 21, pos := "enc_name.go:112", after := #[{ on := 18, ground := Go.Ground.data }, { on := 12, ground := Go.Ground.guard }], guard := some (12, true) }) (v := undef) rfl (by kernel_rfl) (by kernel_rfl) (by kernel_rfl) (fun _ _ _ h => h) (Or.inr ⟨by rfl, rfl⟩) (by assumption) ?r321
              try simp only [Act.put, List.setIfInBounds_toArray, List.set_cons_zero, List.set_cons_succ]
              refine wpAnyH_take (i := 20) (oi := { dst := some 104, op := Go.Op.call { callee := Go.Callee.value (Go.Operand.func 45), args := #[Go.Operand.tmp 103], argTypes := #[21] }, type := 21, pos := "enc_name.go:112", after := #[{ on := 19, ground := Go.Ground.data }, { on := 12, ground := Go.Ground.chain }, { on := 12, ground := Go.Ground.guard }], guard := some (12, true) }) (v := undef) rfl (by kernel_rfl) (by kernel_rfl) (by kernel_rfl) (fun _ _ _ h => h) (Or.inr ⟨by rfl, rfl⟩) (by assumption) ?r322
              try simp only [Act.put, List.setIfInBounds_toArray, List.set_cons_zero, List.set_cons_succ]
              refine wpAnyH_take (i := 21) (oi := { dst := some 105, op := Go.Op.call { callee := Go.Callee.value (Go.Operand.func 42), args := #[Go.Operand.tmp 97, Go.Operand.tmp 104], argTypes := #[22, 21] }, type := 4, pos := "enc_name.go:112", after := #[{ on := 13, ground := Go.Ground.data }, { on := 20, ground := Go.Ground.data }, { on := 20, ground := Go.Ground.chain }, { on := 12, ground := Go.Ground.guard }], guard := some (12, true) }) (v := undef) rfl (by kernel_rfl) (by kernel_rfl) (by kernel_rfl) (fun _ _ _ h => h) (Or.inr ⟨by rfl, rfl⟩) (by assumption) ?r323
              try simp only [Act.put, List.setIfInBounds_toArray, List.set_cons_zero, List.set_cons_succ]
              refine wpAnyH_take (i := 22) (oi := { dst := some 106, op := Go.Op.pick (Go.Operand.tmp 96) (Go.Operand.tmp 105) (Go.Operand.const (Go.Value.bool false)), type := 4, pos := "enc_name.go:112", after := #[{ on := 12, ground := Go.Ground.data }, { on := 21, ground := Go.Ground.data }], guard := none }) (v := ?v324) rfl (by kernel_rfl) (by kernel_rfl) (by kernel_rfl) (fun _ _ _ h => h) (Or.inl ⟨by rfl, ?y324⟩) (by assumption) ?r324
              case y324 => (intro w hSw; (try dsimp only at hSw); first | (go_simp; done) | (go_simp; with_reducible rfl))
              try simp only [Act.put, List.setIfInBounds_toArray, List.set_cons_zero, List.set_cons_succ]
              refine wpAnyH_done (by kernel_rfl) ?_ _
              refine NoPanic.normal ?_
              try go_wp2
              go_meet
              case rel => exact ⟨by rw [hr], below_drewN' (Below.refl _ _) 1⟩
            · obtain ⟨M, c, rfl⟩ : ∃ M c, R = M ++ [c] := ⟨R.dropLast, R.getLast hRn, (List.dropLast_concat_getLast hRn).symm⟩
              have hMl : n1 = M.length + 1 := by rw [← hn1]; simp
              obtain ⟨ad, rfl, y0, y1, y2⟩ := at_T52 hC7 (M.length : Int) (by omega) (by rw [hlen]; omega)
              have hrd : rd_T52 ((M ++ [c]).map un) (M.length : Int) = un c := by simp [rd_T52]
              rw [hrd] at y0 y1 y2
              simp only [Int.toNat_natCast] at y0 y1 y2
              have hgc := good_le hPr2 (c := c) (by simp)
              have cO := hcO c hgc
              obtain ⟨C0, hC0⟩ : ∃ x, (un c).f1 = x := ⟨_, rfl⟩
              rw [hC0] at cO y1
              obtain ⟨lM, hlM⟩ : ∃ lM, M.length = lM := ⟨_, rfl⟩
              rw [hlM] at y1 hMl
              have hw1 : wrap64 ((n1 : Int) - 1) = (lM : Int) := by rw [hMl]; exact w64m (by omega)
              have hlt : (lM : Int) < (n1 : Int) := by omega
              have h0l : (0 : Int) ≤ (lM : Int) := by omega
              have hgt : (n1 : Int) > 0 := by omega
              have x1 : w3.cell? ⟨(ad.add (lM * 3)).block, (ad.add (lM * 3)).off + 1, none⟩ = some (.int .i32 C0) := by rw [← add_one1]; exact y1
              have hw2 : IntKind.i64.wrap ((n1 : Int) - 1) = (lM : Int) := by rw [i64_w]; exact hw1
              clear y0 y1 y2 hrd hRn eN2 hMl hRs hC7 hgc hC0 hlM hw1
              have hbd : ∀ n, Below w3.heap.size w3 (w3.drewN n) := fun n => below_drewN' (Below.refl _ _) n
              rcases sgC_cases c with ⟨h1, h2⟩ | ⟨a, h1, h2⟩
              · have hr : rB (tkm m) (M ++ [c]) = false := by rw [rB_snoc, h2]; rfl
                rw [h1] at cO
                clear h1 h2
                refine wp_region_noPanic ?_
                refine wp_region_held_drew (S := (fun w' => w'.cell? ⟨(ad.add (lM * 3)).block, (ad.add (lM * 3)).off + 1, none⟩ = some (.int .i32 C0) ∧ w'.cell? ⟨w.heap.size, 0, none⟩ = some (.int .u64 m))) (by kernel_rfl) ?h401 (fun hHeld => ?k401)
                case h401 => ((try dsimp only); go_keep)
                refine wpAnyH_take (i := 0) (oi := { dst := some 84, op := Go.Op.move (Go.Operand.tmp 11), type := 3, pos := "enc_name.go:112", after := #[], guard := none }) (v := ?v402) rfl (by kernel_rfl) (by kernel_rfl) (by kernel_rfl) (fun _ _ _ h => h) (Or.inl ⟨by rfl, ?y402⟩) (by assumption) ?r402
                case y402 => (intro w hSw; (try dsimp only at hSw); first | (go_simp; done) | (go_simp; with_reducible rfl))
                try simp only [Act.put, List.setIfInBounds_toArray, List.set_cons_zero, List.set_cons_succ]
                refine wpAnyH_take (i := 1) (oi := { dst := some 85, op := Go.Op.binOp Go.BinOp.gtr 3 (Go.Operand.tmp 84) (Go.Operand.const (Go.Value.int Go.IntKind.i64 0)) 3, type := 4, pos := "enc_name.go:112", after := #[{ on := 0, ground := Go.Ground.data }], guard := none }) (v := .bool true) rfl (by kernel_rfl) (by kernel_rfl) (by kernel_rfl) (fun _ _ _ h => h) (Or.inl ⟨by rfl, ?y403⟩) (by assumption) ?r403
                case y403 => (intro w hSw; go_simp; first | done | omega)
                try simp only [Act.put, List.setIfInBounds_toArray, List.set_cons_zero, List.set_cons_succ]
                refine wpAnyH_take (i := 2) (oi := { dst := some 86, op := Go.Op.move (Go.Operand.tmp 85), type := 4, pos := "enc_name.go:112", after := #[{ on := 1, ground := Go.Ground.data }], guard := none }) (v := ?v404) rfl (by kernel_rfl) (by kernel_rfl) (by kernel_rfl) (fun _ _ _ h => h) (Or.inl ⟨by rfl, ?y404⟩) (by assumption) ?r404
                case y404 => (intro w hSw; (try dsimp only at hSw); first | (go_simp; done) | (go_simp; with_reducible rfl))
                try simp only [Act.put, List.setIfInBounds_toArray, List.set_cons_zero, List.set_cons_succ]
                refine wpAnyH_take (i := 3) (oi := { dst := some 87, op := Go.Op.move (Go.Operand.tmp 7), type := 47, pos := "enc_name.go:112", after := #[{ on := 2, ground := Go.Ground.guard }], guard := some (2, true) }) (v := ?v405) rfl (by kernel_rfl) (by kernel_rfl) (by kernel_rfl) (fun _ _ _ h => h) (Or.inl ⟨by rfl, ?y405⟩) (by assumption) ?r405
                case y405 => (intro w hSw; (try dsimp only at hSw); first | (go_simp; done) | (go_simp; with_reducible rfl))
                try simp only [Act.put, List.setIfInBounds_toArray, List.set_cons_zero, List.set_cons_succ]
                refine wpAnyH_take (i := 4) (oi := { dst := some 88, op := Go.Op.move (Go.Operand.tmp 11), type := 3, pos := "enc_name.go:112", after := #[{ on := 2, ground := Go.Ground.guard }], guard := some (2, true) }) (v := ?v406) rfl (by kernel_rfl) (by kernel_rfl) (by kernel_rfl) (fun _ _ _ h => h) (Or.inl ⟨by rfl, ?y406⟩) (by assumption) ?r406
                case y406 => (intro w hSw; (try dsimp only at hSw); first | (go_simp; done) | (go_simp; with_reducible rfl))
                try simp only [Act.put, List.setIfInBounds_toArray, List.set_cons_zero, List.set_cons_succ]
                refine wpAnyH_take (i := 5) (oi := { dst := some 89, op := Go.Op.binOp Go.BinOp.sub 3 (Go.Operand.tmp 88) (Go.Operand.const (Go.Value.int Go.IntKind.i64 1)) 3, type := 3, pos := "enc_name.go:112", after := #[{ on := 4, ground := Go.Ground.data }, { on := 2, ground := Go.Ground.guard }], guard := some (2, true) }) (v := .int .i64 (lM : Int)) rfl (by kernel_rfl) (by kernel_rfl) (by kernel_rfl) (fun _ _ _ h => h) (Or.inl ⟨by rfl, ?y407⟩) (by assumption) ?r407
                case y407 => (intro w hSw; (try dsimp only at hSw); first | (go_simp; done) | (go_simp; with_reducible rfl))
                try simp only [Act.put, List.setIfInBounds_toArray, List.set_cons_zero, List.set_cons_succ]
                refine wpAnyH_take (i := 6) (oi := { dst := some 90, op := Go.Op.indexAddr 47 (Go.Operand.tmp 87) (Go.Operand.tmp 89), type := 0, pos := "enc_name.go:112", after := #[{ on := 3, ground := Go.Ground.data }, { on := 5, ground := Go.Ground.data }, { on := 2, ground := Go.Ground.guard }], guard := some (2, true) }) (v := .pointer (some (ad.add (lM * 3)))) rfl (by kernel_rfl) (by kernel_rfl) (by kernel_rfl) (fun _ _ _ h => h) (Or.inl ⟨by rfl, ?y408⟩) (by assumption) ?r408
                case y408 => (intro w hSw; go_simp)
                try simp only [Act.put, List.setIfInBounds_toArray, List.set_cons_zero, List.set_cons_succ]
                refine wpAnyH_take (i := 7) (oi := { dst := some 91, op := Go.Op.fieldAddr 52 (Go.Operand.tmp 90) 1, type := 0, pos := "enc_name.go:112", after := #[{ on := 6, ground := Go.Ground.data }, { on := 2, ground := Go.Ground.guard }], guard := some (2, true) }) (v := ?v409) rfl (by kernel_rfl) (by kernel_rfl) (by kernel_rfl) (fun _ _ _ h => h) (Or.inl ⟨by rfl, ?y409⟩) (by assumption) ?r409
                case y409 => (intro w hSw; (try dsimp only at hSw); first | (go_simp; done) | (go_simp; with_reducible rfl))
                try simp only [Act.put, List.setIfInBounds_toArray, List.set_cons_zero, List.set_cons_succ]
                refine wpAnyH_take (i := 8) (oi := { dst := some 92, op := Go.Op.load 21 (Go.Operand.tmp 91), type := 21, pos := "enc_name.go:112", after := #[{ on := 7, ground := Go.Ground.data }, { on := 2, ground := Go.Ground.guard }], guard := some (2, true) }) (v := ?v410) rfl (by kernel_rfl) (by kernel_rfl) (by kernel_rfl) (fun _ _ _ h => h) (Or.inl ⟨by rfl, ?y410⟩) (by assumption) ?r410
                case y410 => (intro w hSw; (try dsimp only at hSw); first | (go_simp; done) | (go_simp; with_reducible rfl))
                try simp only [Act.put, List.setIfInBounds_toArray, List.set_cons_zero, List.set_cons_succ]
                refine wpAnyH_ready (rs := [9]) (by kernel_rfl) (by simp) ?_
                refine AllReadyH.cons (o := { dst := some 93, op := Go.Op.call { callee := Go.Callee.value (Go.Operand.func 45), args := #[Go.Operand.tmp 92], argTypes := #[21] }, type := 21, pos := "enc_name.go:112", after := #[{ on := 8, ground := Go.Ground.data }, { on := 2, ground := Go.Ground.chain }, { on := 2, ground := Go.Ground.guard }], guard := some (2, true) }) rfl (fun K hK => ?s411) ?m411
                case m411 => exact AllReadyH.nil
                go_simp; go_at_call 45; refine (cO _).mono ?_; rintro e w1 ⟨rfl, ⟨n, rfl⟩⟩
                refine hK.out _ _ ?h411 (fun hHeld => ?k411)
                case h411 => ((try dsimp only); go_keep)
                clear hK K
                try simp only [Act.put, List.setIfInBounds_toArray, List.set_cons_zero, List.set_cons_succ]
                refine wpAnyH_take (i := 10) (oi := { dst := some 94, op := Go.Op.binOp Go.BinOp.geq 21 (Go.Operand.tmp 93) (Go.Operand.const (Go.Value.int Go.IntKind.i32 0)) 21, type := 4, pos := "enc_name.go:112", after := #[{ on := 9, ground := Go.Ground.data }, { on := 2, ground := Go.Ground.guard }], guard := some (2, true) }) (v := ?v412) rfl (by kernel_rfl) (by kernel_rfl) (by kernel_rfl) (fun _ _ _ h => h) (Or.inl ⟨by rfl, ?y412⟩) (by assumption) ?r412
                case y412 => (intro w hSw; (try dsimp only at hSw); first | (go_simp; done) | (go_simp; with_reducible rfl))
                try simp only [Act.put, List.setIfInBounds_toArray, List.set_cons_zero, List.set_cons_succ]
                refine wpAnyH_take (i := 11) (oi := { dst := some 95, op := Go.Op.pick (Go.Operand.tmp 86) (Go.Operand.tmp 94) (Go.Operand.const (Go.Value.bool false)), type := 4, pos := "enc_name.go:112", after := #[{ on := 2, ground := Go.Ground.data }, { on := 10, ground := Go.Ground.data }], guard := none }) (v := ?v413) rfl (by kernel_rfl) (by kernel_rfl) (by kernel_rfl) (fun _ _ _ h => h) (Or.inl ⟨by rfl, ?y413⟩) (by assumption) ?r413
                case y413 => (intro w hSw; (try dsimp only at hSw); first | (go_simp; done) | (go_simp; with_reducible rfl))
                try simp only [Act.put, List.setIfInBounds_toArray, List.set_cons_zero, List.set_cons_succ]
                refine wpAnyH_take (i := 12) (oi := { dst := some 96, op := Go.Op.move (Go.Operand.tmp 95), type := 4, pos := "enc_name.go:112", after := #[{ on := 11, ground := Go.Ground.data }, { on := 9, ground := Go.Ground.chain }], guard := none }) (v := ?v414) rfl (by kernel_rfl) (by kernel_rfl) (by kernel_rfl) (fun _ _ _ h => h) (Or.inl ⟨by rfl, ?y414⟩) (by assumption) ?r414
                case y414 => (intro w hSw; (try dsimp only at hSw); first | (go_simp; done) | (go_simp; with_reducible rfl))
                try simp only [Act.put, List.setIfInBounds_toArray, List.set_cons_zero, List.set_cons_succ]
                refine wpAnyH_take (i := 13) (oi := { dst := some 97, op := Go.Op.load 22 (Go.Operand.tmp 2), type := 22, pos := "enc_name.go:112", after := #[{ on := 12, ground := Go.Ground.guard }], guard := some (12, true) }) (v := undef) rfl (by kernel_rfl) (by kernel_rfl) (by kernel_rfl) (fun _ _ _ h => h) (Or.inr ⟨by rfl, rfl⟩) (by assumption) ?r415
                try simp only [Act.put, List.setIfInBounds_toArray, List.set_cons_zero, List.set_cons_succ]
                refine wpAnyH_take (i := 14) (oi := { dst := some 98, op := Go.Op.move (Go.Operand.tmp 7), type := 47, pos := "enc_name.go:112", after := #[{ on := 12, ground := Go.Ground.guard }], guard := some (12, true) }) (v := undef) rfl (by kernel_rfl) (by kernel_rfl) (by kernel_rfl) (fun _ _ _ h => h) (Or.inr ⟨by rfl, rfl⟩) (by assumption) ?r416
                try simp only [Act.put, List.setIfInBounds_toArray, List.set_cons_zero, List.set_cons_succ]
                refine wpAnyH_take (i := 15) (oi := { dst := some 99, op := Go.Op.move (Go.Operand.tmp 11), type := 3, pos := "enc_name.go:112", after := #[{ on := 12, ground := Go.Ground.guard }], guard := some (12, true) }) (v := undef) rfl (by kernel_rfl) (by kernel_rfl) (by kernel_rfl) (fun _ _ _ h => h) (Or.inr ⟨by rfl, rfl⟩) (by assumption) ?r417
                try simp only [Act.put, List.setIfInBounds_toArray, List.set_cons_zero, List.set_cons_succ]
                refine wpAnyH_take (i := 16) (oi := { dst := some 100, op := Go.Op.binOp Go.BinOp.sub 3 (Go.Operand.tmp 99) (Go.Operand.const (Go.Value.int Go.IntKind.i64 1)) 3, type := 3, pos := "enc_name.go:112", after := #[{ on := 15, ground := Go.Ground.data }, { on := 12, ground := Go.Ground.guard }], guard := some (12, true) }) (v := undef) rfl (by kernel_rfl) (by kernel_rfl) (by kernel_rfl) (fun _ _ _ h => h) (Or.inr ⟨by rfl, rfl⟩) (by assumption) ?r418
                try simp only [Act.put, List.setIfInBounds_toArray, List.set_cons_zero, List.set_cons_succ]
                refine wpAnyH_take (i := 17) (oi := { dst := some 101, op := Go.Op.indexAddr 47 (Go.Operand.tmp 98) (Go.Operand.tmp 100), type := 0, pos := "enc_name.go:112", after := #[{ on := 14, ground := Go.Ground.data }, { on := 16, ground := Go.Ground.data }, { on := 12, ground := Go.Ground.guard }], guard := some (12, true) }) (v := undef) rfl (by kernel_rfl) (by kernel_rfl) (by kernel_rfl) (fun _ _ _ h => h) (Or.inr ⟨by rfl, rfl⟩) (by assumption) ?r419
                try simp only [Act.put, List.setIfInBounds_toArray, List.set_cons_zero, List.set_cons_succ]
                refine wpAnyH_take (i := 18) (oi := { dst := some 102, op := Go.Op.fieldAddr 52 (Go.Operand.tmp 101) 1, type := 0, pos := "enc_name.go:112", after := #[{ on := 17, ground := Go.Ground.data }, { on := 12, ground := Go.Ground.guard }], guard := some (12, true) }) (v := undef) rfl (by kernel_rfl) (by kernel_rfl) (by kernel_rfl) (fun _ _ _ h => h) (Or.inr ⟨by rfl, rfl⟩) (by assumption) ?r420
                try simp only [Act.put, List.setIfInBounds_toArray, List.set_cons_zero, List.set_cons_succ]
                refine wpAnyH_take (i := 19) (oi := { dst := some 103, op := Go.Op.load 21 (Go.Operand.tmp 102), type := 21, pos := "enc_name.go:112", after := #[{ on := 18, ground := Go.Ground.data }, { on := 12, ground := Go.Ground.guard }], guard := some (12, true) }) (v := undef) rfl (by kernel_rfl) (by kernel_rfl) (by kernel_rfl) (fun _ _ _ h => h) (Or.inr ⟨by rfl, rfl⟩) (by assumption) ?r421
                try simp only [Act.put, List.setIfInBounds_toArray, List.set_cons_zero, List.set_cons_succ]
                refine wpAnyH_take (i := 20) (oi := { dst := some 104, op := Go.Op.call { callee := Go.Callee.value (Go.Operand.func 45), args := #[Go.Operand.tmp 103], argTypes := #[21] }, type := 21, pos := "enc_name.go:112", after := #[{ on := 19, ground := Go.Ground.data }, { on := 12, ground := Go.Ground.chain }, { on := 12, ground := Go.Ground.guard }], guard := some (12, true) }) (v := undef) rfl (by kernel_rfl) (by kernel_rfl) (by kernel_rfl) (fun _ _ _ h => h) (Or.inr ⟨by rfl, rfl⟩) (by assumption) ?r422
                try simp only [Act.put, List.setIfInBounds_toArray, List.set_cons_zero, List.set_cons_succ]
                refine wpAnyH_take (i := 21) (oi := { dst := some 105, op := Go.Op.call { callee := Go.Callee.value (Go.Operand.func 42), args := #[Go.Operand.tmp 97, Go.Operand.tmp 104], argTypes := #[22, 21] }, type := 4, pos := "enc_name.go:112", after := #[{ on := 13, ground := Go.Ground.data }, { on := 20, ground := Go.Ground.data }, { on := 20, ground := Go.Ground.chain }, { on := 12, ground := Go.Ground.guard }], guard := some (12, true) }) (v := undef) rfl (by kernel_rfl) (by kernel_rfl) (by kernel_rfl) (fun _ _ _ h => h) (Or.inr ⟨by rfl, rfl⟩) (by assumption) ?r423
                try simp only [Act.put, List.setIfInBounds_toArray, List.set_cons_zero, List.set_cons_succ]
                refine wpAnyH_take (i := 22) (oi := { dst := some 106, op := Go.Op.pick (Go.Operand.tmp 96) (Go.Operand.tmp 105) (Go.Operand.const (Go.Value.bool false)), type := 4, pos := "enc_name.go:112", after := #[{ on := 12, ground := Go.Ground.data }, { on := 21, ground := Go.Ground.data }], guard := none }) (v := ?v424) rfl (by kernel_rfl) (by kernel_rfl) (by kernel_rfl) (fun _ _ _ h => h) (Or.inl ⟨by rfl, ?y424⟩) (by assumption) ?r424
                case y424 => (intro w hSw; (try dsimp only at hSw); first | (go_simp; done) | (go_simp; with_reducible rfl))
                try simp only [Act.put, List.setIfInBounds_toArray, List.set_cons_zero, List.set_cons_succ]
                refine wpAnyH_done (by kernel_rfl) ?_ _
                refine NoPanic.normal ?_
                try go_wp2
                go_meet
                case rel => exact ⟨by rw [hr], by first | exact hbd _ | exact below_drewN' (hbd _) _ | exact below_drewN' (below_drewN' (hbd _) _) _⟩
              · have hr : rB (tkm m) (M ++ [c]) = (tkm m).r a := by rw [rB_snoc, h2]; cases (tkm m).r a <;> rfl
                have cR := fun (W : World) => spec_TakesRight.calls m (a : Int) ((tkm m).r a) W (takesRight_is m a)
                obtain ⟨b, hb0⟩ : ∃ b, (tkm m).r a = b := ⟨_, rfl⟩
                rw [hb0] at cR hr
                rw [h1] at cO
                have ha0 : (a : Int) ≥ 0 := by omega
                clear h1 h2 hb0
                refine wp_region_noPanic ?_
                refine wp_region_held_drew (S := (fun w' => w'.cell? ⟨(ad.add (lM * 3)).block, (ad.add (lM * 3)).off + 1, none⟩ = some (.int .i32 C0) ∧ w'.cell? ⟨w.heap.size, 0, none⟩ = some (.int .u64 m))) (by kernel_rfl) ?h501 (fun hHeld => ?k501)
                case h501 => ((try dsimp only); go_keep)
                refine wpAnyH_take (i := 0) (oi := { dst := some 84, op := Go.Op.move (Go.Operand.tmp 11), type := 3, pos := "enc_name.go:112", after := #[], guard := none }) (v := ?v502) rfl (by kernel_rfl) (by kernel_rfl) (by kernel_rfl) (fun _ _ _ h => h) (Or.inl ⟨by rfl, ?y502⟩) (by assumption) ?r502
                case y502 => (intro w hSw; (try dsimp only at hSw); first | (go_simp; done) | (go_simp; with_reducible rfl))
                try simp only [Act.put, List.setIfInBounds_toArray, List.set_cons_zero, List.set_cons_succ]
                refine wpAnyH_take (i := 1) (oi := { dst := some 85, op := Go.Op.binOp Go.BinOp.gtr 3 (Go.Operand.tmp 84) (Go.Operand.const (Go.Value.int Go.IntKind.i64 0)) 3, type := 4, pos := "enc_name.go:112", after := #[{ on := 0, ground := Go.Ground.data }], guard := none }) (v := .bool true) rfl (by kernel_rfl) (by kernel_rfl) (by kernel_rfl) (fun _ _ _ h => h) (Or.inl ⟨by rfl, ?y503⟩) (by assumption) ?r503
                case y503 => (intro w hSw; go_simp; first | done | omega)
                try simp only [Act.put, List.setIfInBounds_toArray, List.set_cons_zero, List.set_cons_succ]
                refine wpAnyH_take (i := 2) (oi := { dst := some 86, op := Go.Op.move (Go.Operand.tmp 85), type := 4, pos := "enc_name.go:112", after := #[{ on := 1, ground := Go.Ground.data }], guard := none }) (v := ?v504) rfl (by kernel_rfl) (by kernel_rfl) (by kernel_rfl) (fun _ _ _ h => h) (Or.inl ⟨by rfl, ?y504⟩) (by assumption) ?r504
                case y504 => (intro w hSw; (try dsimp only at hSw); first | (go_simp; done) | (go_simp; with_reducible rfl))
                try simp only [Act.put, List.setIfInBounds_toArray, List.set_cons_zero, List.set_cons_succ]
                refine wpAnyH_take (i := 3) (oi := { dst := some 87, op := Go.Op.move (Go.Operand.tmp 7), type := 47, pos := "enc_name.go:112", after := #[{ on := 2, ground := Go.Ground.guard }], guard := some (2, true) }) (v := ?v505) rfl (by kernel_rfl) (by kernel_rfl) (by kernel_rfl) (fun _ _ _ h => h) (Or.inl ⟨by rfl, ?y505⟩) (by assumption) ?r505
                case y505 => (intro w hSw; (try dsimp only at hSw); first | (go_simp; done) | (go_simp; with_reducible rfl))
                try simp only [Act.put, List.setIfInBounds_toArray, List.set_cons_zero, List.set_cons_succ]
                refine wpAnyH_take (i := 4) (oi := { dst := some 88, op := Go.Op.move (Go.Operand.tmp 11), type := 3, pos := "enc_name.go:112", after := #[{ on := 2, ground := Go.Ground.guard }], guard := some (2, true) }) (v := ?v506) rfl (by kernel_rfl) (by kernel_rfl) (by kernel_rfl) (fun _ _ _ h => h) (Or.inl ⟨by rfl, ?y506⟩) (by assumption) ?r506
                case y506 => (intro w hSw; (try dsimp only at hSw); first | (go_simp; done) | (go_simp; with_reducible rfl))
                try simp only [Act.put, List.setIfInBounds_toArray, List.set_cons_zero, List.set_cons_succ]
                refine wpAnyH_take (i := 5) (oi := { dst := some 89, op := Go.Op.binOp Go.BinOp.sub 3 (Go.Operand.tmp 88) (Go.Operand.const (Go.Value.int Go.IntKind.i64 1)) 3, type := 3, pos := "enc_name.go:112", after := #[{ on := 4, ground := Go.Ground.data }, { on := 2, ground := Go.Ground.guard }], guard := some (2, true) }) (v := .int .i64 (lM : Int)) rfl (by kernel_rfl) (by kernel_rfl) (by kernel_rfl) (fun _ _ _ h => h) (Or.inl ⟨by rfl, ?y507⟩) (by assumption) ?r507
                case y507 => (intro w hSw; (try dsimp only at hSw); first | (go_simp; done) | (go_simp; with_reducible rfl))
                try simp only [Act.put, List.setIfInBounds_toArray, List.set_cons_zero, List.set_cons_succ]
                refine wpAnyH_take (i := 6) (oi := { dst := some 90, op := Go.Op.indexAddr 47 (Go.Operand.tmp 87) (Go.Operand.tmp 89), type := 0, pos := "enc_name.go:112", after := #[{ on := 3, ground := Go.Ground.data }, { on := 5, ground := Go.Ground.data }, { on := 2, ground := Go.Ground.guard }], guard := some (2, true) }) (v := .pointer (some (ad.add (lM * 3)))) rfl (by kernel_rfl) (by kernel_rfl) (by kernel_rfl) (fun _ _ _ h => h) (Or.inl ⟨by rfl, ?y508⟩) (by assumption) ?r508
                case y508 => (intro w hSw; go_simp)
                try simp only [Act.put, List.setIfInBounds_toArray, List.set_cons_zero, List.set_cons_succ]
                refine wpAnyH_take (i := 7) (oi := { dst := some 91, op := Go.Op.fieldAddr 52 (Go.Operand.tmp 90) 1, type := 0, pos := "enc_name.go:112", after := #[{ on := 6, ground := Go.Ground.data }, { on := 2, ground := Go.Ground.guard }], guard := some (2, true) }) (v := ?v509) rfl (by kernel_rfl) (by kernel_rfl) (by kernel_rfl) (fun _ _ _ h => h) (Or.inl ⟨by rfl, ?y509⟩) (by assumption) ?r509
                case y509 => (intro w hSw; (try dsimp only at hSw); first | (go_simp; done) | (go_simp; with_reducible rfl))
                try simp only [Act.put, List.setIfInBounds_toArray, List.set_cons_zero, List.set_cons_succ]
                refine wpAnyH_take (i := 8) (oi := { dst := some 92, op := Go.Op.load 21 (Go.Operand.tmp 91), type := 21, pos := "enc_name.go:112", after := #[{ on := 7, ground := Go.Ground.data }, { on := 2, ground := Go.Ground.guard }], guard := some (2, true) }) (v := ?v510) rfl (by kernel_rfl) (by kernel_rfl) (by kernel_rfl) (fun _ _ _ h => h) (Or.inl ⟨by rfl, ?y510⟩) (by assumption) ?r510
                case y510 => (intro w hSw; (try dsimp only at hSw); first | (go_simp; done) | (go_simp; with_reducible rfl))
                try simp only [Act.put, List.setIfInBounds_toArray, List.set_cons_zero, List.set_cons_succ]
                refine wpAnyH_ready (rs := [9]) (by kernel_rfl) (by simp) ?_
                refine AllReadyH.cons (o := { dst := some 93, op := Go.Op.call { callee := Go.Callee.value (Go.Operand.func 45), args := #[Go.Operand.tmp 92], argTypes := #[21] }, type := 21, pos := "enc_name.go:112", after := #[{ on := 8, ground := Go.Ground.data }, { on := 2, ground := Go.Ground.chain }, { on := 2, ground := Go.Ground.guard }], guard := some (2, true) }) rfl (fun K hK => ?s511) ?m511
                case m511 => exact AllReadyH.nil
                go_simp; go_at_call 45; refine (cO _).mono ?_; rintro e w1 ⟨rfl, ⟨n, rfl⟩⟩
                refine hK.out _ _ ?h511 (fun hHeld => ?k511)
                case h511 => ((try dsimp only); go_keep)
                clear hK K
                try simp only [Act.put, List.setIfInBounds_toArray, List.set_cons_zero, List.set_cons_succ]
                refine wpAnyH_take (i := 10) (oi := { dst := some 94, op := Go.Op.binOp Go.BinOp.geq 21 (Go.Operand.tmp 93) (Go.Operand.const (Go.Value.int Go.IntKind.i32 0)) 21, type := 4, pos := "enc_name.go:112", after := #[{ on := 9, ground := Go.Ground.data }, { on := 2, ground := Go.Ground.guard }], guard := some (2, true) }) (v := ?v512) rfl (by kernel_rfl) (by kernel_rfl) (by kernel_rfl) (fun _ _ _ h => h) (Or.inl ⟨by rfl, ?y512⟩) (by assumption) ?r512
                case y512 => (intro w hSw; (try dsimp only at hSw); first | (go_simp; done) | (go_simp; with_reducible rfl))
                try simp only [Act.put, List.setIfInBounds_toArray, List.set_cons_zero, List.set_cons_succ]
                refine wpAnyH_take (i := 11) (oi := { dst := some 95, op := Go.Op.pick (Go.Operand.tmp 86) (Go.Operand.tmp 94) (Go.Operand.const (Go.Value.bool false)), type := 4, pos := "enc_name.go:112", after := #[{ on := 2, ground := Go.Ground.data }, { on := 10, ground := Go.Ground.data }], guard := none }) (v := ?v513) rfl (by kernel_rfl) (by kernel_rfl) (by kernel_rfl) (fun _ _ _ h => h) (Or.inl ⟨by rfl, ?y513⟩) (by assumption) ?r513
                case y513 => (intro w hSw; (try dsimp only at hSw); first | (go_simp; done) | (go_simp; with_reducible rfl))
                try simp only [Act.put, List.setIfInBounds_toArray, List.set_cons_zero, List.set_cons_succ]
                refine wpAnyH_take (i := 12) (oi := { dst := some 96, op := Go.Op.move (Go.Operand.tmp 95), type := 4, pos := "enc_name.go:112", after := #[{ on := 11, ground := Go.Ground.data }, { on := 9, ground := Go.Ground.chain }], guard := none }) (v := ?v514) rfl (by kernel_rfl) (by kernel_rfl) (by kernel_rfl) (fun _ _ _ h => h) (Or.inl ⟨by rfl, ?y514⟩) (by assumption) ?r514
                case y514 => (intro w hSw; (try dsimp only at hSw); first | (go_simp; done) | (go_simp; with_reducible rfl))
                try simp only [Act.put, List.setIfInBounds_toArray, List.set_cons_zero, List.set_cons_succ]
                refine wpAnyH_take (i := 13) (oi := { dst := some 97, op := Go.Op.load 22 (Go.Operand.tmp 2), type := 22, pos := "enc_name.go:112", after := #[{ on := 12, ground := Go.Ground.guard }], guard := some (12, true) }) (v := ?v515) rfl (by kernel_rfl) (by kernel_rfl) (by kernel_rfl) (fun _ _ _ h => h) (Or.inl ⟨by rfl, ?y515⟩) (by assumption) ?r515
                case y515 => (intro w hSw; (try dsimp only at hSw); first | (go_simp; done) | (go_simp; with_reducible rfl))
                try simp only [Act.put, List.setIfInBounds_toArray, List.set_cons_zero, List.set_cons_succ]
                refine wpAnyH_take (i := 14) (oi := { dst := some 98, op := Go.Op.move (Go.Operand.tmp 7), type := 47, pos := "enc_name.go:112", after := #[{ on := 12, ground := Go.Ground.guard }], guard := some (12, true) }) (v := ?v516) rfl (by kernel_rfl) (by kernel_rfl) (by kernel_rfl) (fun _ _ _ h => h) (Or.inl ⟨by rfl, ?y516⟩) (by assumption) ?r516
                case y516 => (intro w hSw; (try dsimp only at hSw); first | (go_simp; done) | (go_simp; with_reducible rfl))
                try simp only [Act.put, List.setIfInBounds_toArray, List.set_cons_zero, List.set_cons_succ]
                refine wpAnyH_take (i := 15) (oi := { dst := some 99, op := Go.Op.move (Go.Operand.tmp 11), type := 3, pos := "enc_name.go:112", after := #[{ on := 12, ground := Go.Ground.guard }], guard := some (12, true) }) (v := ?v517) rfl (by kernel_rfl) (by kernel_rfl) (by kernel_rfl) (fun _ _ _ h => h) (Or.inl ⟨by rfl, ?y517⟩) (by assumption) ?r517
                case y517 => (intro w hSw; (try dsimp only at hSw); first | (go_simp; done) | (go_simp; with_reducible rfl))
                try simp only [Act.put, List.setIfInBounds_toArray, List.set_cons_zero, List.set_cons_succ]
                refine wpAnyH_take (i := 16) (oi := { dst := some 100, op := Go.Op.binOp Go.BinOp.sub 3 (Go.Operand.tmp 99) (Go.Operand.const (Go.Value.int Go.IntKind.i64 1)) 3, type := 3, pos := "enc_name.go:112", after := #[{ on := 15, ground := Go.Ground.data }, { on := 12, ground := Go.Ground.guard }], guard := some (12, true) }) (v := .int .i64 (lM : Int)) rfl (by kernel_rfl) (by kernel_rfl) (by kernel_rfl) (fun _ _ _ h => h) (Or.inl ⟨by rfl, ?y518⟩) (by assumption) ?r518
                case y518 => (intro w hSw; (try dsimp only at hSw); first | (go_simp; done) | (go_simp; with_reducible rfl))
                try simp only [Act.put, List.setIfInBounds_toArray, List.set_cons_zero, List.set_cons_succ]
                refine wpAnyH_take (i := 17) (oi := { dst := some 101, op := Go.Op.indexAddr 47 (Go.Operand.tmp 98) (Go.Operand.tmp 100), type := 0, pos := "enc_name.go:112", after := #[{ on := 14, ground := Go.Ground.data }, { on := 16, ground := Go.Ground.data }, { on := 12, ground := Go.Ground.guard }], guard := some (12, true) }) (v := .pointer (some (ad.add (lM * 3)))) rfl (by kernel_rfl) (by kernel_rfl) (by kernel_rfl) (fun _ _ _ h => h) (Or.inl ⟨by rfl, ?y519⟩) (by assumption) ?r519
                case y519 => (intro w hSw; go_simp)
                try simp only [Act.put, List.setIfInBounds_toArray, List.set_cons_zero, List.set_cons_succ]
                refine wpAnyH_take (i := 18) (oi := { dst := some 102, op := Go.Op.fieldAddr 52 (Go.Operand.tmp 101) 1, type := 0, pos := "enc_name.go:112", after := #[{ on := 17, ground := Go.Ground.data }, { on := 12, ground := Go.Ground.guard }], guard := some (12, true) }) (v := ?v520) rfl (by kernel_rfl) (by kernel_rfl) (by kernel_rfl) (fun _ _ _ h => h) (Or.inl ⟨by rfl, ?y520⟩) (by assumption) ?r520
                case y520 => (intro w hSw; (try dsimp only at hSw); first | (go_simp; done) | (go_simp; with_reducible rfl))
                try simp only [Act.put, List.setIfInBounds_toArray, List.set_cons_zero, List.set_cons_succ]
                refine wpAnyH_take (i := 19) (oi := { dst := some 103, op := Go.Op.load 21 (Go.Operand.tmp 102), type := 21, pos := "enc_name.go:112", after := #[{ on := 18, ground := Go.Ground.data }, { on := 12, ground := Go.Ground.guard }], guard := some (12, true) }) (v := ?v521) rfl (by kernel_rfl) (by kernel_rfl) (by kernel_rfl) (fun _ _ _ h => h) (Or.inl ⟨by rfl, ?y521⟩) (by assumption) ?r521
                case y521 => (intro w hSw; (try dsimp only at hSw); first | (go_simp; done) | (go_simp; with_reducible rfl))
                try simp only [Act.put, List.setIfInBounds_toArray, List.set_cons_zero, List.set_cons_succ]
                refine wpAnyH_ready (rs := [20]) (by kernel_rfl) (by simp) ?_
                refine AllReadyH.cons (o := { dst := some 104, op := Go.Op.call { callee := Go.Callee.value (Go.Operand.func 45), args := #[Go.Operand.tmp 103], argTypes := #[21] }, type := 21, pos := "enc_name.go:112", after := #[{ on := 19, ground := Go.Ground.data }, { on := 12, ground := Go.Ground.chain }, { on := 12, ground := Go.Ground.guard }], guard := some (12, true) }) rfl (fun K hK => ?s522) ?m522
                case m522 => exact AllReadyH.nil
                go_simp; go_at_call 45; refine (cO _).mono ?_; rintro e w1 ⟨rfl, ⟨n, rfl⟩⟩
                refine hK.out _ _ ?h522 (fun hHeld => ?k522)
                case h522 => ((try dsimp only); go_keep)
                clear hK K
                try simp only [Act.put, List.setIfInBounds_toArray, List.set_cons_zero, List.set_cons_succ]
                refine wpAnyH_ready (rs := [21]) (by kernel_rfl) (by simp) ?_
                refine AllReadyH.cons (o := { dst := some 105, op := Go.Op.call { callee := Go.Callee.value (Go.Operand.func 42), args := #[Go.Operand.tmp 97, Go.Operand.tmp 104], argTypes := #[22, 21] }, type := 4, pos := "enc_name.go:112", after := #[{ on := 13, ground := Go.Ground.data }, { on := 20, ground := Go.Ground.data }, { on := 20, ground := Go.Ground.chain }, { on := 12, ground := Go.Ground.guard }], guard := some (12, true) }) rfl (fun K hK => ?s523) ?m523
                case m523 => exact AllReadyH.nil
                go_simp; go_at_call 42; refine (cR _).mono ?_; rintro e w1 ⟨rfl, ⟨n, rfl⟩⟩
                refine hK.out _ _ ?h523 (fun hHeld => ?k523)
                case h523 => ((try dsimp only); go_keep)
                clear hK K
                try simp only [Act.put, List.setIfInBounds_toArray, List.set_cons_zero, List.set_cons_succ]
                refine wpAnyH_take (i := 22) (oi := { dst := some 106, op := Go.Op.pick (Go.Operand.tmp 96) (Go.Operand.tmp 105) (Go.Operand.const (Go.Value.bool false)), type := 4, pos := "enc_name.go:112", after := #[{ on := 12, ground := Go.Ground.data }, { on := 21, ground := Go.Ground.data }], guard := none }) (v := ?v524) rfl (by kernel_rfl) (by kernel_rfl) (by kernel_rfl) (fun _ _ _ h => h) (Or.inl ⟨by rfl, ?y524⟩) (by assumption) ?r524
                case y524 => (intro w hSw; (try dsimp only at hSw); first | (go_simp; done) | (go_simp; with_reducible rfl))
                try simp only [Act.put, List.setIfInBounds_toArray, List.set_cons_zero, List.set_cons_succ]
                refine wpAnyH_done (by kernel_rfl) ?_ _
                refine NoPanic.normal ?_
                try go_wp2
                go_meet
                case rel => exact ⟨by rw [hr], by first | exact hbd _ | exact below_drewN' (hbd _) _ | exact below_drewN' (below_drewN' (hbd _) _) _⟩
        case rest =>
          obtain ⟨rfl, hb8⟩ := hcut
          obtain ⟨w5, rfl⟩ : ∃ W : World, W = wc := ⟨_, rfl⟩
          have hC8 := Kd.C_below hC7 hb8
          have hcell5 := (hb8.cell (World.block_lt_of_cell? w3 _ hcell3)).trans hcell3
          clear hC7
          go_upto_if 106 with fail
          go_cut [7, 9] from 16 (fun v7 v9 wx => ∃ (A9 : Option Addr) (c9 : Nat), v7 = .slice A9 (dright (tkm m) R).1.length c9 ∧ Kd.C k52 wx A9 ((dright (tkm m) R).1.map un).length ((dright (tkm m) R).1.map un) ∧ (dright (tkm m) R).1.length ≤ c9 ∧ v9 = .string (strB (flat (dright (tkm m) R).2)) ∧ Below w5.heap.size w5 wx)
          case first =>
            as_aux_lemma =>
              cases hrb : rB (tkm m) R with
              | false =>
                have e0 : dright (tkm m) R = (R, []) := by
                  by_cases hRn : R = []
                  · subst hRn; rfl
                  · obtain ⟨M, c, rfl⟩ : ∃ M c, R = M ++ [c] := ⟨R.dropLast, R.getLast hRn, (List.dropLast_concat_getLast hRn).symm⟩
                    rw [rB_snoc] at hrb
                    rw [dright_snoc]
                    cases hl : lsign (tkm m).r c with
                    | none => rfl
                    | some a => rw [hl] at hrb; cases hrb
                clear eN2 hrb
                go_wp2_with fail
                go_meet
                case rel => rw [e0]; exact ⟨_, _, by rw [hn1], hC8, by rw [hn1]; exact hc7, rfl, Below.refl _ _⟩
              | true =>
                have hRn : ¬ R = [] := by
                  intro h
                  subst h
                  cases hrb
                obtain ⟨M, c, rfl⟩ : ∃ M c, R = M ++ [c] := ⟨R.dropLast, R.getLast hRn, (List.dropLast_concat_getLast hRn).symm⟩
                rw [rB_snoc] at hrb
                obtain ⟨a, hsg⟩ := Option.isSome_iff_exists.1 hrb
                obtain ⟨ha1, ha2⟩ := ls_of hsg
                have ha3 := (tkm_ok m).r a ha2
                have hdr := dright_snoc (tkm m) M c
                rw [hsg] at hdr
                dsimp only at hdr
                have hMl : n1 = M.length + 1 := by rw [← hn1]; simp
                obtain ⟨ad, rfl, y0, y1, y2⟩ := at_T52 hC8 (M.length : Int) (by omega) (by rw [hlen]; omega)
                have hrd : rd_T52 ((M ++ [c]).map un) (M.length : Int) = un c := by simp [rd_T52]
                rw [hrd] at y0 y1 y2
                simp only [Int.toNat_natCast] at y0 y1 y2
                have hgc := good_le hPr2 (c := c) (by simp)
                have cO := hcO c hgc
                rw [ha1] at cO
                have hTS : strB (flat [c]) = (un c).f0 := by
                  rw [un_f0]
                  show strB (c.by ++ []) = _
                  rw [List.append_nil]
                obtain ⟨C0, hC0⟩ : ∃ x, (un c).f1 = x := ⟨_, rfl⟩
                obtain ⟨T0, hT0⟩ : ∃ x, (un c).f0 = x := ⟨_, rfl⟩
                rw [hC0] at cO y1
                rw [hT0] at y0 hTS
                obtain ⟨lM, hlM⟩ : ∃ lM, M.length = lM := ⟨_, rfl⟩
                rw [hlM] at y0 y1 hMl
                have hw1 : wrap64 ((n1 : Int) - 1) = (lM : Int) := by rw [hMl]; exact w64m (by omega)
                have hw2 : IntKind.i64.wrap ((n1 : Int) - 1) = (lM : Int) := by rw [i64_w]; exact hw1
                have hlt : (lM : Int) < (n1 : Int) := by omega
                have h0l : (0 : Int) ≤ (lM : Int) := by omega
                have x1 : w5.cell? ⟨(ad.add (lM * 3)).block, (ad.add (lM * 3)).off + 1, none⟩ = some (.int .i32 C0) := by rw [← add_one1]; exact y1
                have x0 : w5.cell? (ad.add (lM * 3)) = some (.string T0) := by rw [← add_zero0 (ad.add (lM * 3))]; exact y0
                have hbd : ∀ n, Below w5.heap.size w5 (w5.drewN n) := fun n => below_drewN' (Below.refl _ _) n
                have hcv := encode_is (good_of (r := a) (by omega))
                have hV2 : strB (flat [Ch.g a]) = strB (Lib.encodeRune (a : Int)) := by
                  show strB (Lib.encodeRune _ ++ []) = _
                  rw [List.append_nil]
                obtain ⟨TS, hVV⟩ : ∃ V, strB (Lib.encodeRune (a : Int)) = V := ⟨_, rfl⟩
                rw [hVV] at hcv hV2
                have hMu : (M.map un).length = lM := by rw [List.length_map]; exact hlM
                obtain ⟨hcut0, hcC, hcl⟩ := cutR (A := some ad) (c := c7) (xs := (M ++ [c]).map un) (k := lM) (by rw [hlen]; omega) (by rw [hlen]; exact hc7)
                have htk : ((M ++ [c]).map un).take lM = M.map un := by rw [List.map_append, ← hlM, ← List.length_map (f := un), List.take_left]
                have hcut1 : ∀ W : World, (Instr.slice 47 (.slice (some ad) n1 c7) none (some (.int .i64 (lM : Int))) none).run Tryd.prog W = .ok (.slice (some ad) lM c7) W := by
                  intro W
                  have := hcut0 W
                  rw [htk, hlen, hMu] at this
                  exact this
                have hC9 := hcC _ hC8
                rw [htk] at hC9
                rw [htk, hMu] at hcl
                by_cases hM : M = []
                · have hgt : ¬ ((n1 : Int) > 1) := by
                    have : lM = 0 := by rw [← hlM, hM]; rfl
                    omega
                  rw [if_neg (by rw [hM]; simp)] at hdr
                  clear hrb hRn hsg ha1 ha2 ha3 hMl hC8 hrd y0 y1 y2 hT0 hC0 hVV hcut0 hcC htk eN2 hgc hcO hTS hM
                  go_upto_region 19 with fail
                  refine wp_region_noPanic ?_
                  refine wp_region_held_drew (S := (fun w' => w'.cell? ⟨(ad.add (lM * 3)).block, (ad.add (lM * 3)).off + 1, none⟩ = some (.int .i32 C0))) (by kernel_rfl) ?h601 (fun hHeld => ?k601)
                  case h601 => ((try dsimp only); go_keep)
                  refine wpAnyH_take (i := 0) (oi := { dst := some 128, op := Go.Op.move (Go.Operand.tmp 7), type := 47, pos := "enc_name.go:116", after := #[], guard := none }) (v := ?v602) rfl (by kernel_rfl) (by kernel_rfl) (by kernel_rfl) (fun _ _ _ h => h) (Or.inl ⟨by rfl, ?y602⟩) (by assumption) ?r602
                  case y602 => (intro w hSw; (try dsimp only at hSw); first | (go_simp; done) | (go_simp; with_reducible rfl))
                  try simp only [Act.put, List.setIfInBounds_toArray, List.set_cons_zero, List.set_cons_succ]
                  refine wpAnyH_take (i := 1) (oi := { dst := some 129, op := Go.Op.move (Go.Operand.tmp 11), type := 3, pos := "enc_name.go:116", after := #[], guard := none }) (v := ?v603) rfl (by kernel_rfl) (by kernel_rfl) (by kernel_rfl) (fun _ _ _ h => h) (Or.inl ⟨by rfl, ?y603⟩) (by assumption) ?r603
                  case y603 => (intro w hSw; (try dsimp only at hSw); first | (go_simp; done) | (go_simp; with_reducible rfl))
                  try simp only [Act.put, List.setIfInBounds_toArray, List.set_cons_zero, List.set_cons_succ]
                  refine wpAnyH_take (i := 2) (oi := { dst := some 130, op := Go.Op.binOp Go.BinOp.sub 3 (Go.Operand.tmp 129) (Go.Operand.const (Go.Value.int Go.IntKind.i64 1)) 3, type := 3, pos := "enc_name.go:116", after := #[{ on := 1, ground := Go.Ground.data }], guard := none }) (v := .int .i64 (lM : Int)) rfl (by kernel_rfl) (by kernel_rfl) (by kernel_rfl) (fun _ _ _ h => h) (Or.inl ⟨by rfl, ?y604⟩) (by assumption) ?r604
                  case y604 => (intro w hSw; (try dsimp only at hSw); first | (go_simp; done) | (go_simp; with_reducible rfl))
                  try simp only [Act.put, List.setIfInBounds_toArray, List.set_cons_zero, List.set_cons_succ]
                  refine wpAnyH_take (i := 3) (oi := { dst := some 131, op := Go.Op.slice 47 (Go.Operand.tmp 128) none (some (Go.Operand.tmp 130)) none, type := 47, pos := "enc_name.go:116", after := #[{ on := 0, ground := Go.Ground.data }, { on := 2, ground := Go.Ground.data }], guard := none }) (v := .slice (some ad) lM c7) rfl (by kernel_rfl) (by kernel_rfl) (by kernel_rfl) (fun _ _ _ h => h) (Or.inl ⟨by rfl, ?y605⟩) (by assumption) ?r605
                  case y605 => (intro w hSw; (try dsimp only at hSw); first | (go_simp; done) | (go_simp; with_reducible rfl))
                  try simp only [Act.put, List.setIfInBounds_toArray, List.set_cons_zero, List.set_cons_succ]
                  refine wpAnyH_take (i := 4) (oi := { dst := some 132, op := Go.Op.move (Go.Operand.tmp 7), type := 47, pos := "enc_name.go:116", after := #[], guard := none }) (v := ?v606) rfl (by kernel_rfl) (by kernel_rfl) (by kernel_rfl) (fun _ _ _ h => h) (Or.inl ⟨by rfl, ?y606⟩) (by assumption) ?r606
                  case y606 => (intro w hSw; (try dsimp only at hSw); first | (go_simp; done) | (go_simp; with_reducible rfl))
                  try simp only [Act.put, List.setIfInBounds_toArray, List.set_cons_zero, List.set_cons_succ]
                  refine wpAnyH_take (i := 5) (oi := { dst := some 133, op := Go.Op.move (Go.Operand.tmp 11), type := 3, pos := "enc_name.go:116", after := #[], guard := none }) (v := ?v607) rfl (by kernel_rfl) (by kernel_rfl) (by kernel_rfl) (fun _ _ _ h => h) (Or.inl ⟨by rfl, ?y607⟩) (by assumption) ?r607
                  case y607 => (intro w hSw; (try dsimp only at hSw); first | (go_simp; done) | (go_simp; with_reducible rfl))
                  try simp only [Act.put, List.setIfInBounds_toArray, List.set_cons_zero, List.set_cons_succ]
                  refine wpAnyH_take (i := 6) (oi := { dst := some 134, op := Go.Op.binOp Go.BinOp.sub 3 (Go.Operand.tmp 133) (Go.Operand.const (Go.Value.int Go.IntKind.i64 1)) 3, type := 3, pos := "enc_name.go:116", after := #[{ on := 5, ground := Go.Ground.data }], guard := none }) (v := .int .i64 (lM : Int)) rfl (by kernel_rfl) (by kernel_rfl) (by kernel_rfl) (fun _ _ _ h => h) (Or.inl ⟨by rfl, ?y608⟩) (by assumption) ?r608
                  case y608 => (intro w hSw; (try dsimp only at hSw); first | (go_simp; done) | (go_simp; with_reducible rfl))
                  try simp only [Act.put, List.setIfInBounds_toArray, List.set_cons_zero, List.set_cons_succ]
                  refine wpAnyH_take (i := 7) (oi := { dst := some 135, op := Go.Op.indexAddr 47 (Go.Operand.tmp 132) (Go.Operand.tmp 134), type := 0, pos := "enc_name.go:116", after := #[{ on := 4, ground := Go.Ground.data }, { on := 6, ground := Go.Ground.data }], guard := none }) (v := .pointer (some (ad.add (lM * 3)))) rfl (by kernel_rfl) (by kernel_rfl) (by kernel_rfl) (fun _ _ _ h => h) (Or.inl ⟨by rfl, ?y609⟩) (by assumption) ?r609
                  case y609 => (intro w hSw; go_simp)
                  try simp only [Act.put, List.setIfInBounds_toArray, List.set_cons_zero, List.set_cons_succ]
                  refine wpAnyH_take (i := 8) (oi := { dst := some 136, op := Go.Op.fieldAddr 52 (Go.Operand.tmp 135) 1, type := 0, pos := "enc_name.go:116", after := #[{ on := 7, ground := Go.Ground.data }], guard := none }) (v := ?v610) rfl (by kernel_rfl) (by kernel_rfl) (by kernel_rfl) (fun _ _ _ h => h) (Or.inl ⟨by rfl, ?y610⟩) (by assumption) ?r610
                  case y610 => (intro w hSw; (try dsimp only at hSw); first | (go_simp; done) | (go_simp; with_reducible rfl))
                  try simp only [Act.put, List.setIfInBounds_toArray, List.set_cons_zero, List.set_cons_succ]
                  refine wpAnyH_take (i := 9) (oi := { dst := some 137, op := Go.Op.load 21 (Go.Operand.tmp 136), type := 21, pos := "enc_name.go:116", after := #[{ on := 8, ground := Go.Ground.data }], guard := none }) (v := ?v611) rfl (by kernel_rfl) (by kernel_rfl) (by kernel_rfl) (fun _ _ _ h => h) (Or.inl ⟨by rfl, ?y611⟩) (by assumption) ?r611
                  case y611 => (intro w hSw; (try dsimp only at hSw); first | (go_simp; done) | (go_simp; with_reducible rfl))
                  try simp only [Act.put, List.setIfInBounds_toArray, List.set_cons_zero, List.set_cons_succ]
                  refine wpAnyH_ready (rs := [10]) (by kernel_rfl) (by simp) ?_
                  refine AllReadyH.cons (o := { dst := some 138, op := Go.Op.call { callee := Go.Callee.value (Go.Operand.func 45), args := #[Go.Operand.tmp 137], argTypes := #[21] }, type := 21, pos := "enc_name.go:116", after := #[{ on := 9, ground := Go.Ground.data }], guard := none }) rfl (fun K hK => ?s612) ?m612
                  case m612 => exact AllReadyH.nil
                  go_simp; go_at_call 45; refine (cO _).mono ?_; rintro e w1 ⟨rfl, ⟨n, rfl⟩⟩
                  refine hK.out _ _ ?h612 (fun hHeld => ?k612)
                  case h612 => ((try dsimp only); go_keep)
                  clear hK K
                  try simp only [Act.put, List.setIfInBounds_toArray, List.set_cons_zero, List.set_cons_succ]
                  refine wpAnyH_take (i := 11) (oi := { dst := some 139, op := Go.Op.convert 21 9 (Go.Operand.tmp 138), type := 9, pos := "enc_name.go:116", after := #[{ on := 10, ground := Go.Ground.data }, { on := 12, ground := Go.Ground.gcOnly Go.Departure.lateStores }], guard := none }) (v := .string TS) rfl (by kernel_rfl) (by kernel_rfl) (by kernel_rfl) (fun _ _ _ h => h) (Or.inl ⟨by rfl, ?y613⟩) (by assumption) ?r613
                  case y613 => (intro w hSw; (try dsimp only at hSw); first | (go_simp; done) | (go_simp; with_reducible rfl))
                  try simp only [Act.put, List.setIfInBounds_toArray, List.set_cons_zero, List.set_cons_succ]
                  refine wpAnyH_take (i := 12) (oi := { dst := some 7, op := Go.Op.assign (Go.Operand.tmp 131), type := 47, pos := "enc_name.go:116", after := #[{ on := 3, ground := Go.Ground.data }, { on := 10, ground := Go.Ground.chain }, { on := 0, ground := Go.Ground.phase }, { on := 1, ground := Go.Ground.phase }, { on := 2, ground := Go.Ground.phase }, { on := 3, ground := Go.Ground.phase }, { on := 4, ground := Go.Ground.phase }, { on := 5, ground := Go.Ground.textOnly Go.Departure.lateStores }, { on := 6, ground := Go.Ground.textOnly Go.Departure.lateStores }, { on := 7, ground := Go.Ground.textOnly Go.Departure.lateStoresUnsure }, { on := 8, ground := Go.Ground.textOnly Go.Departure.lateStoresUnsure }, { on := 9, ground := Go.Ground.textOnly Go.Departure.lateStoresUnsure }, { on := 10, ground := Go.Ground.textOnly Go.Departure.lateStoresUnsure }, { on := 11, ground := Go.Ground.textOnly Go.Departure.lateStores }], guard := none }) (v := ?v614) rfl (by kernel_rfl) (by kernel_rfl) (by kernel_rfl) (fun _ _ _ h => h) (Or.inl ⟨by rfl, ?y614⟩) (by assumption) ?r614
                  case y614 => (intro w hSw; (try dsimp only at hSw); first | (go_simp; done) | (go_simp; with_reducible rfl))
                  try simp only [Act.put, List.setIfInBounds_toArray, List.set_cons_zero, List.set_cons_succ]
                  refine wpAnyH_take (i := 13) (oi := { dst := some 9, op := Go.Op.assign (Go.Operand.tmp 139), type := 9, pos := "enc_name.go:116", after := #[{ on := 11, ground := Go.Ground.data }, { on := 12, ground := Go.Ground.chain }, { on := 0, ground := Go.Ground.phase }, { on := 1, ground := Go.Ground.phase }, { on := 2, ground := Go.Ground.phase }, { on := 3, ground := Go.Ground.phase }, { on := 4, ground := Go.Ground.phase }, { on := 5, ground := Go.Ground.phase }, { on := 6, ground := Go.Ground.phase }, { on := 7, ground := Go.Ground.phase }, { on := 8, ground := Go.Ground.phase }, { on := 9, ground := Go.Ground.phase }, { on := 10, ground := Go.Ground.phase }, { on := 11, ground := Go.Ground.phase }, { on := 12, ground := Go.Ground.phase }], guard := none }) (v := ?v615) rfl (by kernel_rfl) (by kernel_rfl) (by kernel_rfl) (fun _ _ _ h => h) (Or.inl ⟨by rfl, ?y615⟩) (by assumption) ?r615
                  case y615 => (intro w hSw; (try dsimp only at hSw); first | (go_simp; done) | (go_simp; with_reducible rfl))
                  try simp only [Act.put, List.setIfInBounds_toArray, List.set_cons_zero, List.set_cons_succ]
                  refine wpAnyH_done (by kernel_rfl) ?_ _
                  refine NoPanic.normal ?_
                  try go_wp2
                  go_meet
                  case rel => rw [hdr]; exact ⟨_, _, by dsimp only; rw [hlM], Kd.C_below hC9 (hbd _), by dsimp only; rw [hlM]; exact hcl, by rw [hV2], hbd _⟩
                · obtain ⟨M2, e, rfl⟩ : ∃ M2 e, M = M2 ++ [e] := ⟨M.dropLast, M.getLast hM, (List.dropLast_concat_getLast hM).symm⟩
                  rw [List.getLast?_concat, List.dropLast_concat] at hdr
                  obtain ⟨lM2, hlM2⟩ : ∃ lM2, M2.length = lM2 := ⟨_, rfl⟩
                  have hl2 : lM = lM2 + 1 := by rw [← hlM, ← hlM2]; simp
                  have hgt : (n1 : Int) > 1 := by omega
                  obtain ⟨ad', e', z0, z1, z2⟩ := at_T52 hC8 (lM2 : Int) (by omega) (by rw [hlen]; omega)
                  cases e'
                  have hrd2 : rd_T52 (((M2 ++ [e]) ++ [c]).map un) (lM2 : Int) = un e := by simp [rd_T52, ← hlM2]
                  rw [hrd2] at z0 z1 z2
                  simp only [Int.toNat_natCast] at z0 z1 z2
                  have hw3 : wrap64 ((n1 : Int) - 2) = (lM2 : Int) := by unfold wrap64; omega
                  have hw4 : IntKind.i64.wrap ((n1 : Int) - 2) = (lM2 : Int) := by rw [i64_w]; exact hw3
                  have hlt2 : (lM2 : Int) < (n1 : Int) := by omega
                  have h0l2 : (0 : Int) ≤ (lM2 : Int) := by omega
                  by_cases hq : e = qt
                  · have c1 : ((un e).f1 == 8219) = true := by rw [beq_iff_eq, un_qt]; exact hq
                    obtain ⟨E0, hE0⟩ : ∃ x, (un e).f1 = x := ⟨_, rfl⟩
                    rw [hE0] at z1 c1
                    rw [if_pos (by rw [hq])] at hdr
                    have hMu2 : (M2.map un).length = lM2 := by rw [List.length_map]; exact hlM2
                    obtain ⟨hcut2, hcD, hcl2⟩ := cutR (A := some ad) (c := c7) (xs := ((M2 ++ [e]) ++ [c]).map un) (k := lM2) (by rw [hlen]; omega) (by rw [hlen]; exact hc7)
                    have htk2 : (((M2 ++ [e]) ++ [c]).map un).take lM2 = M2.map un := by rw [List.append_assoc, List.map_append, ← hlM2, ← List.length_map (f := un), List.take_left]
                    have hcut3 : ∀ W : World, (Instr.slice 47 (.slice (some ad) n1 c7) none (some (.int .i64 (lM2 : Int))) none).run Tryd.prog W = .ok (.slice (some ad) lM2 c7) W := by
                      intro W
                      have := hcut2 W
                      rw [htk2, hlen, hMu2] at this
                      exact this
                    have hC10 := hcD _ hC8
                    rw [htk2] at hC10
                    rw [htk2, hMu2] at hcl2
                    clear hrb hRn hsg ha1 ha2 ha3 hMl hC8 hrd hrd2 y0 y1 y2 z0 z2 hT0 hC0 hVV hcut0 hcC htk eN2 hgc hcO hM hl2 hE0 hcut1 hcut2 hcD htk2 hC9 hcl hq hV2 hcv cO hw1 hw3
                    go_upto_region 18 with fail
                    refine wp_region_noPanic ?_
                    refine wp_region_held_drew (S := (fun w' => w'.cell? (ad.add (lM * 3)) = some (.string T0))) (by kernel_rfl) ?h701 (fun hHeld => ?k701)
                    case h701 => ((try dsimp only); go_keep)
                    refine wpAnyH_take (i := 0) (oi := { dst := some 118, op := Go.Op.move (Go.Operand.tmp 7), type := 47, pos := "enc_name.go:114", after := #[], guard := none }) (v := ?v702) rfl (by kernel_rfl) (by kernel_rfl) (by kernel_rfl) (fun _ _ _ h => h) (Or.inl ⟨by rfl, ?y702⟩) (by assumption) ?r702
                    case y702 => (intro w hSw; (try dsimp only at hSw); first | (go_simp; done) | (go_simp; with_reducible rfl))
                    try simp only [Act.put, List.setIfInBounds_toArray, List.set_cons_zero, List.set_cons_succ]
                    refine wpAnyH_take (i := 1) (oi := { dst := some 119, op := Go.Op.move (Go.Operand.tmp 11), type := 3, pos := "enc_name.go:114", after := #[], guard := none }) (v := ?v703) rfl (by kernel_rfl) (by kernel_rfl) (by kernel_rfl) (fun _ _ _ h => h) (Or.inl ⟨by rfl, ?y703⟩) (by assumption) ?r703
                    case y703 => (intro w hSw; (try dsimp only at hSw); first | (go_simp; done) | (go_simp; with_reducible rfl))
                    try simp only [Act.put, List.setIfInBounds_toArray, List.set_cons_zero, List.set_cons_succ]
                    refine wpAnyH_take (i := 2) (oi := { dst := some 120, op := Go.Op.binOp Go.BinOp.sub 3 (Go.Operand.tmp 119) (Go.Operand.const (Go.Value.int Go.IntKind.i64 2)) 3, type := 3, pos := "enc_name.go:114", after := #[{ on := 1, ground := Go.Ground.data }], guard := none }) (v := .int .i64 (lM2 : Int)) rfl (by kernel_rfl) (by kernel_rfl) (by kernel_rfl) (fun _ _ _ h => h) (Or.inl ⟨by rfl, ?y704⟩) (by assumption) ?r704
                    case y704 => (intro w hSw; (try dsimp only at hSw); first | (go_simp; done) | (go_simp; with_reducible rfl))
                    try simp only [Act.put, List.setIfInBounds_toArray, List.set_cons_zero, List.set_cons_succ]
                    refine wpAnyH_take (i := 3) (oi := { dst := some 121, op := Go.Op.slice 47 (Go.Operand.tmp 118) none (some (Go.Operand.tmp 120)) none, type := 47, pos := "enc_name.go:114", after := #[{ on := 0, ground := Go.Ground.data }, { on := 2, ground := Go.Ground.data }], guard := none }) (v := .slice (some ad) lM2 c7) rfl (by kernel_rfl) (by kernel_rfl) (by kernel_rfl) (fun _ _ _ h => h) (Or.inl ⟨by rfl, ?y705⟩) (by assumption) ?r705
                    case y705 => (intro w hSw; (try dsimp only at hSw); first | (go_simp; done) | (go_simp; with_reducible rfl))
                    try simp only [Act.put, List.setIfInBounds_toArray, List.set_cons_zero, List.set_cons_succ]
                    refine wpAnyH_take (i := 4) (oi := { dst := some 122, op := Go.Op.move (Go.Operand.tmp 7), type := 47, pos := "enc_name.go:114", after := #[], guard := none }) (v := ?v706) rfl (by kernel_rfl) (by kernel_rfl) (by kernel_rfl) (fun _ _ _ h => h) (Or.inl ⟨by rfl, ?y706⟩) (by assumption) ?r706
                    case y706 => (intro w hSw; (try dsimp only at hSw); first | (go_simp; done) | (go_simp; with_reducible rfl))
                    try simp only [Act.put, List.setIfInBounds_toArray, List.set_cons_zero, List.set_cons_succ]
                    refine wpAnyH_take (i := 5) (oi := { dst := some 123, op := Go.Op.move (Go.Operand.tmp 11), type := 3, pos := "enc_name.go:114", after := #[], guard := none }) (v := ?v707) rfl (by kernel_rfl) (by kernel_rfl) (by kernel_rfl) (fun _ _ _ h => h) (Or.inl ⟨by rfl, ?y707⟩) (by assumption) ?r707
                    case y707 => (intro w hSw; (try dsimp only at hSw); first | (go_simp; done) | (go_simp; with_reducible rfl))
                    try simp only [Act.put, List.setIfInBounds_toArray, List.set_cons_zero, List.set_cons_succ]
                    refine wpAnyH_take (i := 6) (oi := { dst := some 124, op := Go.Op.binOp Go.BinOp.sub 3 (Go.Operand.tmp 123) (Go.Operand.const (Go.Value.int Go.IntKind.i64 1)) 3, type := 3, pos := "enc_name.go:114", after := #[{ on := 5, ground := Go.Ground.data }], guard := none }) (v := .int .i64 (lM : Int)) rfl (by kernel_rfl) (by kernel_rfl) (by kernel_rfl) (fun _ _ _ h => h) (Or.inl ⟨by rfl, ?y708⟩) (by assumption) ?r708
                    case y708 => (intro w hSw; (try dsimp only at hSw); first | (go_simp; done) | (go_simp; with_reducible rfl))
                    try simp only [Act.put, List.setIfInBounds_toArray, List.set_cons_zero, List.set_cons_succ]
                    refine wpAnyH_take (i := 7) (oi := { dst := some 125, op := Go.Op.indexAddr 47 (Go.Operand.tmp 122) (Go.Operand.tmp 124), type := 0, pos := "enc_name.go:114", after := #[{ on := 4, ground := Go.Ground.data }, { on := 6, ground := Go.Ground.data }], guard := none }) (v := .pointer (some (ad.add (lM * 3)))) rfl (by kernel_rfl) (by kernel_rfl) (by kernel_rfl) (fun _ _ _ h => h) (Or.inl ⟨by rfl, ?y709⟩) (by assumption) ?r709
                    case y709 => (intro w hSw; go_simp)
                    try simp only [Act.put, List.setIfInBounds_toArray, List.set_cons_zero, List.set_cons_succ]
                    refine wpAnyH_take (i := 8) (oi := { dst := some 126, op := Go.Op.fieldAddr 52 (Go.Operand.tmp 125) 0, type := 0, pos := "enc_name.go:114", after := #[{ on := 7, ground := Go.Ground.data }], guard := none }) (v := .pointer (some (ad.add (lM * 3)))) rfl (by kernel_rfl) (by kernel_rfl) (by kernel_rfl) (fun _ _ _ h => h) (Or.inl ⟨by rfl, ?y710⟩) (by assumption) ?r710
                    case y710 => (intro w hSw; go_simp)
                    try simp only [Act.put, List.setIfInBounds_toArray, List.set_cons_zero, List.set_cons_succ]
                    refine wpAnyH_take (i := 9) (oi := { dst := some 127, op := Go.Op.load 9 (Go.Operand.tmp 126), type := 9, pos := "enc_name.go:114", after := #[{ on := 8, ground := Go.Ground.data }], guard := none }) (v := .string T0) rfl (by kernel_rfl) (by kernel_rfl) (by kernel_rfl) (fun _ _ _ h => h) (Or.inl ⟨by rfl, ?y711⟩) (by assumption) ?r711
                    case y711 => (intro w hSw; (try dsimp only at hSw); first | (go_simp; done) | (go_simp; with_reducible rfl))
                    try simp only [Act.put, List.setIfInBounds_toArray, List.set_cons_zero, List.set_cons_succ]
                    refine wpAnyH_take (i := 10) (oi := { dst := some 7, op := Go.Op.assign (Go.Operand.tmp 121), type := 47, pos := "enc_name.go:114", after := #[{ on := 3, ground := Go.Ground.data }, { on := 0, ground := Go.Ground.phase }, { on := 1, ground := Go.Ground.phase }, { on := 2, ground := Go.Ground.phase }, { on := 3, ground := Go.Ground.phase }, { on := 4, ground := Go.Ground.phase }, { on := 5, ground := Go.Ground.textOnly Go.Departure.lateStores }, { on := 6, ground := Go.Ground.textOnly Go.Departure.lateStores }, { on := 7, ground := Go.Ground.textOnly Go.Departure.lateStoresUnsure }, { on := 8, ground := Go.Ground.textOnly Go.Departure.lateStoresUnsure }, { on := 9, ground := Go.Ground.textOnly Go.Departure.lateStoresUnsure }], guard := none }) (v := ?v712) rfl (by kernel_rfl) (by kernel_rfl) (by kernel_rfl) (fun _ _ _ h => h) (Or.inl ⟨by rfl, ?y712⟩) (by assumption) ?r712
                    case y712 => (intro w hSw; (try dsimp only at hSw); first | (go_simp; done) | (go_simp; with_reducible rfl))
                    try simp only [Act.put, List.setIfInBounds_toArray, List.set_cons_zero, List.set_cons_succ]
                    refine wpAnyH_take (i := 11) (oi := { dst := some 9, op := Go.Op.assign (Go.Operand.tmp 127), type := 9, pos := "enc_name.go:114", after := #[{ on := 9, ground := Go.Ground.data }, { on := 10, ground := Go.Ground.chain }, { on := 0, ground := Go.Ground.phase }, { on := 1, ground := Go.Ground.phase }, { on := 2, ground := Go.Ground.phase }, { on := 3, ground := Go.Ground.phase }, { on := 4, ground := Go.Ground.phase }, { on := 5, ground := Go.Ground.phase }, { on := 6, ground := Go.Ground.phase }, { on := 7, ground := Go.Ground.phase }, { on := 8, ground := Go.Ground.phase }, { on := 9, ground := Go.Ground.phase }, { on := 10, ground := Go.Ground.phase }], guard := none }) (v := ?v713) rfl (by kernel_rfl) (by kernel_rfl) (by kernel_rfl) (fun _ _ _ h => h) (Or.inl ⟨by rfl, ?y713⟩) (by assumption) ?r713
                    case y713 => (intro w hSw; (try dsimp only at hSw); first | (go_simp; done) | (go_simp; with_reducible rfl))
                    try simp only [Act.put, List.setIfInBounds_toArray, List.set_cons_zero, List.set_cons_succ]
                    refine wpAnyH_done (by kernel_rfl) ?_ _
                    refine NoPanic.normal ?_
                    try go_wp2
                    go_meet
                    case rel => rw [hdr]; exact ⟨_, _, by dsimp only; rw [hlM2], Kd.C_below hC10 (hbd 1), by dsimp only; rw [hlM2]; exact hcl2, by rw [hTS], hbd 1⟩
                  · have c1 : ((un e).f1 == 8219) = false := by rw [beq_eq_false_iff_ne, ne_eq, un_qt]; exact hq
                    obtain ⟨E0, hE0⟩ : ∃ x, (un e).f1 = x := ⟨_, rfl⟩
                    rw [hE0] at z1 c1
                    rw [if_neg (by simpa using hq)] at hdr
                    clear hrb hRn hsg ha1 ha2 ha3 hMl hC8 hrd hrd2 y0 y1 y2 z0 z2 hT0 hC0 hVV hcut0 hcC htk eN2 hgc hcO hM hl2 hE0 hq hTS hw1 hw3
                    go_upto_region 19 with fail
                    refine wp_region_noPanic ?_
                    refine wp_region_held_drew (S := (fun w' => w'.cell? ⟨(ad.add (lM * 3)).block, (ad.add (lM * 3)).off + 1, none⟩ = some (.int .i32 C0))) (by kernel_rfl) ?h801 (fun hHeld => ?k801)
                    case h801 => ((try dsimp only); go_keep)
                    refine wpAnyH_take (i := 0) (oi := { dst := some 128, op := Go.Op.move (Go.Operand.tmp 7), type := 47, pos := "enc_name.go:116", after := #[], guard := none }) (v := ?v802) rfl (by kernel_rfl) (by kernel_rfl) (by kernel_rfl) (fun _ _ _ h => h) (Or.inl ⟨by rfl, ?y802⟩) (by assumption) ?r802
                    case y802 => (intro w hSw; (try dsimp only at hSw); first | (go_simp; done) | (go_simp; with_reducible rfl))
                    try simp only [Act.put, List.setIfInBounds_toArray, List.set_cons_zero, List.set_cons_succ]
                    refine wpAnyH_take (i := 1) (oi := { dst := some 129, op := Go.Op.move (Go.Operand.tmp 11), type := 3, pos := "enc_name.go:116", after := #[], guard := none }) (v := ?v803) rfl (by kernel_rfl) (by kernel_rfl) (by kernel_rfl) (fun _ _ _ h => h) (Or.inl ⟨by rfl, ?y803⟩) (by assumption) ?r803
                    case y803 => (intro w hSw; (try dsimp only at hSw); first | (go_simp; done) | (go_simp; with_reducible rfl))
                    try simp only [Act.put, List.setIfInBounds_toArray, List.set_cons_zero, List.set_cons_succ]
                    refine wpAnyH_take (i := 2) (oi := { dst := some 130, op := Go.Op.binOp Go.BinOp.sub 3 (Go.Operand.tmp 129) (Go.Operand.const (Go.Value.int Go.IntKind.i64 1)) 3, type := 3, pos := "enc_name.go:116", after := #[{ on := 1, ground := Go.Ground.data }], guard := none }) (v := .int .i64 (lM : Int)) rfl (by kernel_rfl) (by kernel_rfl) (by kernel_rfl) (fun _ _ _ h => h) (Or.inl ⟨by rfl, ?y804⟩) (by assumption) ?r804
                    case y804 => (intro w hSw; (try dsimp only at hSw); first | (go_simp; done) | (go_simp; with_reducible rfl))
                    try simp only [Act.put, List.setIfInBounds_toArray, List.set_cons_zero, List.set_cons_succ]
                    refine wpAnyH_take (i := 3) (oi := { dst := some 131, op := Go.Op.slice 47 (Go.Operand.tmp 128) none (some (Go.Operand.tmp 130)) none, type := 47, pos := "enc_name.go:116", after := #[{ on := 0, ground := Go.Ground.data }, { on := 2, ground := Go.Ground.data }], guard := none }) (v := .slice (some ad) lM c7) rfl (by kernel_rfl) (by kernel_rfl) (by kernel_rfl) (fun _ _ _ h => h) (Or.inl ⟨by rfl, ?y805⟩) (by assumption) ?r805
                    case y805 => (intro w hSw; (try dsimp only at hSw); first | (go_simp; done) | (go_simp; with_reducible rfl))
                    try simp only [Act.put, List.setIfInBounds_toArray, List.set_cons_zero, List.set_cons_succ]
                    refine wpAnyH_take (i := 4) (oi := { dst := some 132, op := Go.Op.move (Go.Operand.tmp 7), type := 47, pos := "enc_name.go:116", after := #[], guard := none }) (v := ?v806) rfl (by kernel_rfl) (by kernel_rfl) (by kernel_rfl) (fun _ _ _ h => h) (Or.inl ⟨by rfl, ?y806⟩) (by assumption) ?r806
                    case y806 => (intro w hSw; (try dsimp only at hSw); first | (go_simp; done) | (go_simp; with_reducible rfl))
                    try simp only [Act.put, List.setIfInBounds_toArray, List.set_cons_zero, List.set_cons_succ]
                    refine wpAnyH_take (i := 5) (oi := { dst := some 133, op := Go.Op.move (Go.Operand.tmp 11), type := 3, pos := "enc_name.go:116", after := #[], guard := none }) (v := ?v807) rfl (by kernel_rfl) (by kernel_rfl) (by kernel_rfl) (fun _ _ _ h => h) (Or.inl ⟨by rfl, ?y807⟩) (by assumption) ?r807
                    case y807 => (intro w hSw; (try dsimp only at hSw); first | (go_simp; done) | (go_simp; with_reducible rfl))
                    try simp only [Act.put, List.setIfInBounds_toArray, List.set_cons_zero, List.set_cons_succ]
                    refine wpAnyH_take (i := 6) (oi := { dst := some 134, op := Go.Op.binOp Go.BinOp.sub 3 (Go.Operand.tmp 133) (Go.Operand.const (Go.Value.int Go.IntKind.i64 1)) 3, type := 3, pos := "enc_name.go:116", after := #[{ on := 5, ground := Go.Ground.data }], guard := none }) (v := .int .i64 (lM : Int)) rfl (by kernel_rfl) (by kernel_rfl) (by kernel_rfl) (fun _ _ _ h => h) (Or.inl ⟨by rfl, ?y808⟩) (by assumption) ?r808
                    case y808 => (intro w hSw; (try dsimp only at hSw); first | (go_simp; done) | (go_simp; with_reducible rfl))
                    try simp only [Act.put, List.setIfInBounds_toArray, List.set_cons_zero, List.set_cons_succ]
                    refine wpAnyH_take (i := 7) (oi := { dst := some 135, op := Go.Op.indexAddr 47 (Go.Operand.tmp 132) (Go.Operand.tmp 134), type := 0, pos := "enc_name.go:116", after := #[{ on := 4, ground := Go.Ground.data }, { on := 6, ground := Go.Ground.data }], guard := none }) (v := .pointer (some (ad.add (lM * 3)))) rfl (by kernel_rfl) (by kernel_rfl) (by kernel_rfl) (fun _ _ _ h => h) (Or.inl ⟨by rfl, ?y809⟩) (by assumption) ?r809
                    case y809 => (intro w hSw; go_simp)
                    try simp only [Act.put, List.setIfInBounds_toArray, List.set_cons_zero, List.set_cons_succ]
                    refine wpAnyH_take (i := 8) (oi := { dst := some 136, op := Go.Op.fieldAddr 52 (Go.Operand.tmp 135) 1, type := 0, pos := "enc_name.go:116", after := #[{ on := 7, ground := Go.Ground.data }], guard := none }) (v := ?v810) rfl (by kernel_rfl) (by kernel_rfl) (by kernel_rfl) (fun _ _ _ h => h) (Or.inl ⟨by rfl, ?y810⟩) (by assumption) ?r810
                    case y810 => (intro w hSw; (try dsimp only at hSw); first | (go_simp; done) | (go_simp; with_reducible rfl))
                    try simp only [Act.put, List.setIfInBounds_toArray, List.set_cons_zero, List.set_cons_succ]
                    refine wpAnyH_take (i := 9) (oi := { dst := some 137, op := Go.Op.load 21 (Go.Operand.tmp 136), type := 21, pos := "enc_name.go:116", after := #[{ on := 8, ground := Go.Ground.data }], guard := none }) (v := ?v811) rfl (by kernel_rfl) (by kernel_rfl) (by kernel_rfl) (fun _ _ _ h => h) (Or.inl ⟨by rfl, ?y811⟩) (by assumption) ?r811
                    case y811 => (intro w hSw; (try dsimp only at hSw); first | (go_simp; done) | (go_simp; with_reducible rfl))
                    try simp only [Act.put, List.setIfInBounds_toArray, List.set_cons_zero, List.set_cons_succ]
                    refine wpAnyH_ready (rs := [10]) (by kernel_rfl) (by simp) ?_
                    refine AllReadyH.cons (o := { dst := some 138, op := Go.Op.call { callee := Go.Callee.value (Go.Operand.func 45), args := #[Go.Operand.tmp 137], argTypes := #[21] }, type := 21, pos := "enc_name.go:116", after := #[{ on := 9, ground := Go.Ground.data }], guard := none }) rfl (fun K hK => ?s812) ?m812
                    case m812 => exact AllReadyH.nil
                    go_simp; go_at_call 45; refine (cO _).mono ?_; rintro e w1 ⟨rfl, ⟨n, rfl⟩⟩
                    refine hK.out _ _ ?h812 (fun hHeld => ?k812)
                    case h812 => ((try dsimp only); go_keep)
                    clear hK K
                    try simp only [Act.put, List.setIfInBounds_toArray, List.set_cons_zero, List.set_cons_succ]
                    refine wpAnyH_take (i := 11) (oi := { dst := some 139, op := Go.Op.convert 21 9 (Go.Operand.tmp 138), type := 9, pos := "enc_name.go:116", after := #[{ on := 10, ground := Go.Ground.data }, { on := 12, ground := Go.Ground.gcOnly Go.Departure.lateStores }], guard := none }) (v := .string TS) rfl (by kernel_rfl) (by kernel_rfl) (by kernel_rfl) (fun _ _ _ h => h) (Or.inl ⟨by rfl, ?y813⟩) (by assumption) ?r813
                    case y813 => (intro w hSw; (try dsimp only at hSw); first | (go_simp; done) | (go_simp; with_reducible rfl))
                    try simp only [Act.put, List.setIfInBounds_toArray, List.set_cons_zero, List.set_cons_succ]
                    refine wpAnyH_take (i := 12) (oi := { dst := some 7, op := Go.Op.assign (Go.Operand.tmp 131), type := 47, pos := "enc_name.go:116", after := #[{ on := 3, ground := Go.Ground.data }, { on := 10, ground := Go.Ground.chain }, { on := 0, ground := Go.Ground.phase }, { on := 1, ground := Go.Ground.phase }, { on := 2, ground := Go.Ground.phase }, { on := 3, ground := Go.Ground.phase }, { on := 4, ground := Go.Ground.phase }, { on := 5, ground := Go.Ground.textOnly Go.Departure.lateStores }, { on := 6, ground := Go.Ground.textOnly Go.Departure.lateStores }, { on := 7, ground := Go.Ground.textOnly Go.Departure.lateStoresUnsure }, { on := 8, ground := Go.Ground.textOnly Go.Departure.lateStoresUnsure }, { on := 9, ground := Go.Ground.textOnly Go.Departure.lateStoresUnsure }, { on := 10, ground := Go.Ground.textOnly Go.Departure.lateStoresUnsure }, { on := 11, ground := Go.Ground.textOnly Go.Departure.lateStores }], guard := none }) (v := ?v814) rfl (by kernel_rfl) (by kernel_rfl) (by kernel_rfl) (fun _ _ _ h => h) (Or.inl ⟨by rfl, ?y814⟩) (by assumption) ?r814
                    case y814 => (intro w hSw; (try dsimp only at hSw); first | (go_simp; done) | (go_simp; with_reducible rfl))
                    try simp only [Act.put, List.setIfInBounds_toArray, List.set_cons_zero, List.set_cons_succ]
                    refine wpAnyH_take (i := 13) (oi := { dst := some 9, op := Go.Op.assign (Go.Operand.tmp 139), type := 9, pos := "enc_name.go:116", after := #[{ on := 11, ground := Go.Ground.data }, { on := 12, ground := Go.Ground.chain }, { on := 0, ground := Go.Ground.phase }, { on := 1, ground := Go.Ground.phase }, { on := 2, ground := Go.Ground.phase }, { on := 3, ground := Go.Ground.phase }, { on := 4, ground := Go.Ground.phase }, { on := 5, ground := Go.Ground.phase }, { on := 6, ground := Go.Ground.phase }, { on := 7, ground := Go.Ground.phase }, { on := 8, ground := Go.Ground.phase }, { on := 9, ground := Go.Ground.phase }, { on := 10, ground := Go.Ground.phase }, { on := 11, ground := Go.Ground.phase }, { on := 12, ground := Go.Ground.phase }], guard := none }) (v := ?v815) rfl (by kernel_rfl) (by kernel_rfl) (by kernel_rfl) (fun _ _ _ h => h) (Or.inl ⟨by rfl, ?y815⟩) (by assumption) ?r815
                    case y815 => (intro w hSw; (try dsimp only at hSw); first | (go_simp; done) | (go_simp; with_reducible rfl))
                    try simp only [Act.put, List.setIfInBounds_toArray, List.set_cons_zero, List.set_cons_succ]
                    refine wpAnyH_done (by kernel_rfl) ?_ _
                    refine NoPanic.normal ?_
                    try go_wp2
                    go_meet
                    case rel => rw [hdr]; exact ⟨_, _, by dsimp only; rw [hlM], Kd.C_below hC9 (below_drewN' (hbd 1) _), by dsimp only; rw [hlM]; exact hcl, by rw [hV2], below_drewN' (hbd 1) _⟩
          case rest =>
            obtain ⟨A9, c9, rfl, hC9, hc9, rfl, hb9⟩ := hcut
            obtain ⟨w6, rfl⟩ : ∃ W : World, W = wc := ⟨_, rfl⟩
            have hs5 := hb8.size
            have hB9 : Below w.heap.size w w6 := (hB3.trans (hb8.mono (by omega))).trans (hb9.mono (by omega))
            have hz6 : w.heap.size + 2 ≤ w6.heap.size := Nat.le_trans (Nat.le_trans hz3 hs5) hb9.size
            have hcell6 := (hb9.cell (World.block_lt_of_cell? w5 _ hcell5)).trans hcell5
            have hPr9 : Pr (dright (tkm m) R).1 := dright_pr hPr2
            have hRs9 := (dright_len (tkm m) R).1
            have hTs : (flat (dright (tkm m) R).2).length ≤ 100 := by
              have h1 := (dright_len (tkm m) R).2
              have h2 := flat_len (dright (tkm m) R).2
              omega
            obtain ⟨D, hD⟩ : ∃ D, (dright (tkm m) R).1 = D := ⟨_, rfl⟩
            obtain ⟨T, hT⟩ : ∃ T, (dright (tkm m) R).2 = T := ⟨_, rfl⟩
            rw [hD] at hC9 hc9 hPr9 hRs9 eN2
            rw [hT] at eN2 hTs
            rw [hD, hT]
            rw [hn1] at hRs9
            have hDs : D.length ≤ 1000000000 := by omega
            clear hD hT hC8 hc7 hlen hPr2 hb9 hB3 hz3 hcell3 hcell5 hs5 hb8 hn1 hRs hLs
            obtain ⟨Vb, hVb⟩ : ∃ Vb, flat V = Vb := ⟨_, rfl⟩
            obtain ⟨Tb, hTb⟩ : ∃ Tb, flat T = Tb := ⟨_, rfl⟩
            rw [hVb] at eN2 hHs
            rw [hTb] at eN2 hTs
            rw [hVb, hTb]
            obtain ⟨Vs, hVs⟩ : ∃ Vs, strB Vb = Vs := ⟨_, rfl⟩
            obtain ⟨Ts, hTs'⟩ : ∃ Ts, strB Tb = Ts := ⟨_, rfl⟩
            rw [hVs] at hHs
            rw [hVs, hTs']
            have hcv : (convert 9 23 (.string Vs)).run Tryd.prog w6 = _ := Lib.run_convert_string_bytes w6 9 23 5 Vs Tryd.underlying9 Tryd.underlying23 Tryd.underlying5
            have hO5 := bytesG w6 Vs (Nat.le_refl w6.heap.size) (by omega)
            have hb5 := belowG w6 Vs (Below.refl w6.heap.size w6) (Nat.le_refl _)
            obtain ⟨W5, hW5⟩ : ∃ W5, Lib.bytesWorld w6 5 Vs = W5 := ⟨_, rfl⟩
            obtain ⟨g5, hg5⟩ : ∃ g5, grownCap w6 Vs.size 0 5 = g5 := ⟨_, rfl⟩
            rw [hW5, hg5] at hcv hO5
            rw [hW5] at hb5
            clear hW5 hg5
            have hcc : ∀ l : List UInt8, Lib.strCells (strB l) = l.map fun b => Value.int .u8 (b.toNat : Int) := fun l => by simp [Lib.strCells, strB]
            have hO5 : OwnG W5 w6.heap.size (.slice (some ⟨w6.heap.size, 0, none⟩) Vs.size g5) (Vb.map fun b => Value.int .u8 (b.toNat : Int)) := by rw [← hcc Vb, hVs]; exact hO5
            go_wp2_with fail
            clear hcv
            go_loopg [7, 12] D.length (fun gf s7 s12 wx => ∃ (A : Option Addr) (cq : Nat) (G : List Ch) (out : List UInt8), s7 = .slice A G.length cq ∧ Kd.C k52 w6 A (G.map un).length (G.map un) ∧ G.length ≤ cq ∧ G.length ≤ gf ∧ Pr G ∧ G.length ≤ D.length ∧ OwnG wx w6.heap.size s12 (out.map fun b => Value.int .u8 (b.toNat : Int)) ∧ Below w6.heap.size w6 wx ∧ out.length + 4 * G.length ≤ 100 + 4 * D.length ∧ Hid (out ++ flat (dmidA (tkm m) G) = Vb ++ flat (dmidA (tkm m) D)))
            case atStart => exact ⟨A9, c9, D, Vb, rfl, hC9, hc9, Nat.le_refl _, hPr9, Nat.le_refl _, hO5, hb5, by rw [← hVs] at hHs; have : (strB Vb).size = Vb.length := Sy.size_strB _; omega, Lib.hid rfl⟩
            case round =>
              clear hO5 hb5 hHs hC9 hPr9
              obtain ⟨A, cq, G, out, rfl, hC6, hcq, hfu, hPG, hGD, hO, hbx, hol, hH⟩ := hrel
              have hC := Kd.C_below hC6 hbx
              have hcellx : wr.cell? ⟨w.heap.size, 0, none⟩ = some (.int .u64 m) := (hbx.cell (World.block_lt_of_cell? w6 _ hcell6)).trans hcell6
              cases G with
              | nil =>
                have hfin := hH.out
                have hfin2 : out ++ Tb = Vb ++ flat (dmidA (tkm m) D) ++ Tb := by
                  rw [← hfin]
                  show _ = (out ++ []) ++ Tb
                  rw [List.append_nil]
                have hT5 : Ts.size ≤ 100 := by rw [← hTs']; have : (strB Tb).size = Tb.length := Sy.size_strB _; omega
                have hTc : Lib.strCells Ts = Tb.map fun b => Value.int .u8 (b.toNat : Int) := by rw [← hTs', hcc]
                clear hH hfin hC hC6 hcell6 hcellx hPG hTs hcO
                go_wp2_with (first | ((with_reducible refine gate_builtin (b := .append) (xs := #[.tmp 182, .tmp 183]) rfl ?_); at_builtin; refine wpAppendG rfl (.tmp 182) (.tmp 183) rfl w6.heap.size rfl hO Ts rfl ?len hbx.size ?_; (case len => rw [List.length_map]; omega); intro v1 w1 hO1 hg1; (first | rw [hTc, ← List.map_append] at hO1 | rw [← List.map_append] at hO1); have htx := textG hO1; have hbz : Below w6.heap.size w6 w1 := hbx.grown hg1 hbx.size (fun k hk => (hO.lt k hk).1)))
                go_ret
                exact ⟨by rw [eN2, List.append_assoc]; rfl, hB9.trans (hbz.mono (by omega))⟩
              | cons c G =>
                obtain ⟨g', rfl⟩ : ∃ g', gk = g' + 1 := ⟨gk - 1, by simp only [List.length_cons] at hfu; omega⟩
                obtain ⟨n2, hn2⟩ : ∃ n2, (c :: G).length = n2 := ⟨_, rfl⟩
                have hlenG : ((c :: G).map un).length = n2 := by rw [List.length_map]; exact hn2
                have hn2' : n2 = G.length + 1 := by rw [← hn2]; simp
                have hpos : (n2 : Int) > 0 := by omega
                have hcq' : n2 ≤ cq := by rw [← hn2]; exact hcq
                obtain ⟨ad, rfl, y0, y1, y2⟩ := at_T52 hC 0 (Int.le_refl _) (by rw [hlenG]; omega)
                have hrd : rd_T52 ((c :: G).map un) 0 = un c := rfl
                rw [hrd] at y0 y1 y2
                simp only [Int.toNat_zero, Nat.zero_mul] at y0 y1 y2
                have had0 : ad.add 0 = ad := by simp [Addr.add]
                rw [had0] at y0 y1 y2
                have hgc := good_le hPG (c := c) (by simp)
                have cO := hcO c hgc
                have hT0 : strB c.by = (un c).f0 := (un_f0 c).symm
                obtain ⟨C0, hC0⟩ : ∃ x, (un c).f1 = x := ⟨_, rfl⟩
                obtain ⟨T0, hT00⟩ : ∃ x, (un c).f0 = x := ⟨_, rfl⟩
                rw [hC0] at cO y1
                rw [hT00] at y0 hT0
                obtain ⟨X, hX⟩ : ∃ X, (nxC (tkm m) (c :: G)).1 = X := ⟨_, rfl⟩
                obtain ⟨j, hj⟩ : ∃ j, (nxC (tkm m) (c :: G)).2 = j := ⟨_, rfl⟩
                have hjr := nx_rng (tkm m) c G
                have hH2 := hH.out
                rw [dmidA_nx, hX, hj, Pt.flat_cons, ← List.append_assoc] at hH2
                rw [hj] at hjr
                have hH3 := Lib.hid hH2
                have hn2h := Lib.hid hn2'
                clear hH hH2 hrd had0 hn2'
                rw [hn2]
                go_upto_block 5 with (go_at_call 45; refine (cO _).mono ?_; rintro e w7 ⟨rfl, ⟨n, rfl⟩⟩)
                have hb7 : Below wr.heap.size wr (wr.drewN n) := below_drewN' (Below.refl _ _) n
                obtain ⟨w7, hw7⟩ : ∃ w7, wr.drewN n = w7 := ⟨_, rfl⟩
                rw [hw7] at hb7 ⊢
                have x0 := (hb7.cell (World.block_lt_of_cell? wr _ y0)).trans y0
                have x1 := (hb7.cell (World.block_lt_of_cell? wr _ y1)).trans y1
                have hcell7 := (hb7.cell (World.block_lt_of_cell? wr _ hcellx)).trans hcellx
                have hC7 := Kd.C_below hC hb7
                have hO7 := hO.below hb7
                have hbx7 := hbx.trans (hb7.mono hbx.size)
                clear hw7 y0 y1 y2 hC hO hbx hcellx hb7
                go_cut [13, 14, 15] (fun v13 v14 _ wx => v13 = .string (strB X.by) ∧ v14 = .int .i64 (j : Int) ∧ Below w7.heap.size w7 wx)
                case first =>
                  as_aux_lemma =>
                    have hnx : nxC (tkm m) (c :: G) = if c = qt then unq (tkm m) G else ((match lsign (tkm m).t c with | some a => Ch.g a | none => c), 1) := rfl
                    by_cases hq : c = qt
                    · have c1 : (C0 == 8219) = true := by rw [beq_iff_eq, ← hC0, un_qt]; exact hq
                      have hPG2 : Pr G := Pt.pr_right (L := [c]) (by simpa using hPG)
                      rw [if_pos hq] at hnx
                      have hf := unq_f m G hPG2
                      rw [← hnx, hX, hj, ← hq] at hf
                      rw [hlenG] at hC7
                      have cQ := spec_unquoted.calls 9 m (some ad) cq ((c :: G).map un) (strB X.by) (j : Int) w7 (by rw [hlenG]; exact hC7) (by rw [hlenG]; exact hcq') hf
                      rw [hlenG] at cQ
                      obtain ⟨XT, hXT⟩ : ∃ x, strB X.by = x := ⟨_, rfl⟩
                      rw [hXT] at cQ
                      clear hf hnx hq hC7 hX hj hjr hT0 hC0 hT00 hgc hPG hPG2 hcO cO hol hfu hn2
                      go_wp2_with (go_at_call 52; refine cQ.mono ?_; rintro e w8 ⟨rfl, hb8⟩)
                      go_meet
                      case rel => exact ⟨by rw [hXT], rfl, hb8⟩
                    · have c1 : (C0 == 8219) = false := by rw [beq_eq_false_iff_ne, ne_eq, ← hC0, un_qt]; exact hq
                      rw [if_neg hq] at hnx
                      have hj1 : j = 1 := by rw [← hj, hnx]
                      have hX1 : X = (match lsign (tkm m).t c with | some a => Ch.g a | none => c) := by rw [← hX, hnx]
                      subst hj1
                      rcases sgC_cases c with ⟨h1, h2⟩ | ⟨a, h1, h2⟩
                      · rw [h2] at hX1
                        have hXT : strB X.by = T0 := by rw [hX1]; exact hT0
                        rw [h1]
                        clear hX1 hnx hX hj hjr hT0 hC0 hT00 hgc hPG hcO cO hol hfu hn2 h1 h2 hC7
                        go_wp2_with fail
                        go_meet
                        case rel => exact ⟨by rw [hXT], rfl, Below.refl _ _⟩
                      · rw [h2] at hX1
                        have cT := fun (W : World) => spec_Takes.calls 3 m (a : Int) ((tkm m).t a) W (takes_is m 0 a)
                        have ha0 : (a : Int) ≥ 0 := by omega
                        rw [h1]
                        cases hta : (tkm m).t a with
                        | false =>
                          rw [hta] at hX1 cT
                          have hXT : strB X.by = T0 := by rw [hX1]; exact hT0
                          clear hX1 hnx hX hj hjr hT0 hC0 hT00 hgc hPG hcO cO hol hfu hn2 h1 h2 hC7 hta
                          go_wp2_with (go_at_call 46; refine (cT _).mono ?_; rintro e w8 ⟨rfl, ⟨q, rfl⟩⟩)
                          go_meet
                          case rel => exact ⟨by rw [hXT], rfl, below_drewN' (Below.refl _ _) _⟩
                        | true =>
                          rw [hta] at hX1 cT
                          have ha3 := (tkm_ok m).t a hta
                          have hcv := encode_is (good_of (r := a) (by omega))
                          have hXT : strB X.by = strB (Lib.encodeRune (a : Int)) := by rw [hX1]; rfl
                          obtain ⟨TS, hVV⟩ : ∃ V, strB (Lib.encodeRune (a : Int)) = V := ⟨_, rfl⟩
                          rw [hVV] at hcv hXT
                          clear hX1 hnx hX hj hjr hT0 hC0 hT00 hgc hPG hcO cO hol hfu hn2 h1 h2 hC7 hta ha3 hVV
                          go_wp2_with (go_at_call 46; refine (cT _).mono ?_; rintro e w8 ⟨rfl, ⟨q, rfl⟩⟩)
                          go_meet
                          case rel => exact ⟨by rw [hXT], rfl, below_drewN' (Below.refl _ _) _⟩
                case rest =>
                  obtain ⟨rfl, rfl, hb8⟩ := hcut
                  have hn2' := hn2h.out
                  obtain ⟨w8, rfl⟩ : ∃ W : World, W = wc := ⟨_, rfl⟩
                  have hd8 : Below w8.heap.size w8 w8.drew := below_drewN' (Below.refl _ _) 1
                  have hO8 := (hO7.below hb8).below hd8
                  have hb9 := (hbx7.trans (hb8.mono hbx7.size)).trans (hd8.mono (hbx7.trans (hb8.mono hbx7.size)).size)
                  obtain ⟨A', hcut0, hcC, hcl⟩ := cutN (A := some ad) (c := cq) (xs := (c :: G).map un) (n := j) (by rw [hlenG]; omega) (by rw [hlenG]; exact hcq')
                  have hC9 := hcC _ hC6
                  rw [← List.map_drop] at hC9 hcl
                  have hdl : (((c :: G).map un).drop j).length = ((c :: G).drop j).length := by rw [← List.map_drop, List.length_map]
                  have hcut1 : ∀ W : World, (Instr.slice 47 (.slice (some ad) n2 cq) (some (.int .i64 (j : Int))) none none).run Tryd.prog W = .ok (.slice A' ((c :: G).drop j).length (cq - j)) W := by
                    intro W
                    have := hcut0 W
                    rw [hlenG, hdl] at this
                    exact this
                  have hPr8 : Pr ((c :: G).drop j) := Pt.pr_right (L := (c :: G).take j) (by rw [List.take_append_drop]; exact hPG)
                  obtain ⟨G2, hG2⟩ : ∃ G2, (c :: G).drop j = G2 := ⟨_, rfl⟩
                  have hG2l : G2.length = n2 - j := by rw [← hG2, List.length_drop, hn2]
                  rw [hG2] at hC9 hcl hcut1 hPr8 hH3
                  rw [List.length_map] at hcl
                  have hXl : X.by.length ≤ 4 := by have := flat_len [X]; simpa [flat] using this
                  have hcb : Lib.strCells (strB X.by) = X.by.map fun b => Value.int .u8 (b.toNat : Int) := hcc _
                  have hXs : (strB X.by).size = X.by.length := Sy.size_strB _
                  obtain ⟨XT, hXT⟩ : ∃ x, strB X.by = x := ⟨_, rfl⟩
                  rw [hXT] at hcb hXs ⊢
                  obtain ⟨Xb, hXb⟩ : ∃ x, X.by = x := ⟨_, rfl⟩
                  rw [hXb] at hcb hXs hXl hH3
                  rw [hn2] at hfu hGD hol
                  have q1 : (out.map fun b => Value.int .u8 (b.toNat : Int)).length + XT.size ≤ 140737488355328 := by rw [List.length_map]; omega
                  have q2 := Lib.hid (show G2.length ≤ g' by omega)
                  have q3 := Lib.hid (show G2.length ≤ D.length by omega)
                  have q4 := Lib.hid (show (out ++ Xb).length + 4 * G2.length ≤ 100 + 4 * D.length by rw [List.length_append]; omega)
                  clear hn2 hn2' hn2h hcq' hjr hX hj hC7 hO7 hbx7 hcut0 hcC hC6 hdl hG2 hG2l hXl hXs hXT hXb hfu hGD hol hPG hcq hgc hT0 hC0 hT00 x0 x1 hcell7 hlenG hcO cO hRs9 hDs hc9 hB9 eN2
                  go_upto_region 28 with fail
                  refine wp_region_noPanic ?_
                  refine wp_region_held_drew (S := (fun _ => True)) (by kernel_rfl) ?h901 (fun hHeld => ?k901)
                  case h901 => ((try dsimp only); all_goals trivial)
                  refine wpAnyH_take (i := 0) (oi := { dst := some 176, op := Go.Op.move (Go.Operand.tmp 12), type := 23, pos := "enc_name.go:128", after := #[], guard := none }) (v := ?v902) rfl (by kernel_rfl) (by kernel_rfl) (by kernel_rfl) (fun _ _ _ h => h) (Or.inl ⟨by rfl, ?y902⟩) (by assumption) ?r902
                  case y902 => (intro w hSw; (try dsimp only at hSw); first | (go_simp; done) | (go_simp; with_reducible rfl))
                  try simp only [Act.put, List.setIfInBounds_toArray, List.set_cons_zero, List.set_cons_succ]
                  refine wpAnyH_take (i := 1) (oi := { dst := some 177, op := Go.Op.move (Go.Operand.tmp 13), type := 9, pos := "enc_name.go:128", after := #[], guard := none }) (v := ?v903) rfl (by kernel_rfl) (by kernel_rfl) (by kernel_rfl) (fun _ _ _ h => h) (Or.inl ⟨by rfl, ?y903⟩) (by assumption) ?r903
                  case y903 => (intro w hSw; (try dsimp only at hSw); first | (go_simp; done) | (go_simp; with_reducible rfl))
                  try simp only [Act.put, List.setIfInBounds_toArray, List.set_cons_zero, List.set_cons_succ]
                  refine wpAnyH_take (i := 3) (oi := { dst := some 179, op := Go.Op.move (Go.Operand.tmp 7), type := 47, pos := "enc_name.go:128", after := #[], guard := none }) (v := ?v904) rfl (by kernel_rfl) (by kernel_rfl) (by kernel_rfl) (fun _ _ _ h => h) (Or.inl ⟨by rfl, ?y904⟩) (by assumption) ?r904
                  case y904 => (intro w hSw; (try dsimp only at hSw); first | (go_simp; done) | (go_simp; with_reducible rfl))
                  try simp only [Act.put, List.setIfInBounds_toArray, List.set_cons_zero, List.set_cons_succ]
                  refine wpAnyH_take (i := 4) (oi := { dst := some 180, op := Go.Op.move (Go.Operand.tmp 14), type := 3, pos := "enc_name.go:128", after := #[], guard := none }) (v := ?v905) rfl (by kernel_rfl) (by kernel_rfl) (by kernel_rfl) (fun _ _ _ h => h) (Or.inl ⟨by rfl, ?y905⟩) (by assumption) ?r905
                  case y905 => (intro w hSw; (try dsimp only at hSw); first | (go_simp; done) | (go_simp; with_reducible rfl))
                  try simp only [Act.put, List.setIfInBounds_toArray, List.set_cons_zero, List.set_cons_succ]
                  refine wpAnyH_take (i := 5) (oi := { dst := some 181, op := Go.Op.slice 47 (Go.Operand.tmp 179) (some (Go.Operand.tmp 180)) none none, type := 47, pos := "enc_name.go:128", after := #[{ on := 3, ground := Go.Ground.data }, { on := 4, ground := Go.Ground.data }], guard := none }) (v := .slice A' G2.length (cq - j)) rfl (by kernel_rfl) (by kernel_rfl) (by kernel_rfl) (fun _ _ _ h => h) (Or.inl ⟨by rfl, ?y906⟩) (by assumption) ?r906
                  case y906 => (intro w hSw; (try dsimp only at hSw); first | (go_simp; done) | (go_simp; with_reducible rfl))
                  try simp only [Act.put, List.setIfInBounds_toArray, List.set_cons_zero, List.set_cons_succ]
                  refine wpAnyH_ready (rs := [2]) (by kernel_rfl) (by simp) ?_
                  refine AllReadyH.cons (o := { dst := some 178, op := Go.Op.call { callee := Go.Callee.builtin Go.Builtin.append, args := #[Go.Operand.tmp 176, Go.Operand.tmp 177], argTypes := #[23, 9] }, type := 23, pos := "enc_name.go:128", after := #[{ on := 0, ground := Go.Ground.data }, { on := 1, ground := Go.Ground.data }], guard := none }) rfl (fun K hK => ?s907) ?m907
                  case m907 => exact AllReadyH.nil
                  refine stepAppendG rfl (.tmp 176) (.tmp 177) rfl w6.heap.size rfl hO8 XT rfl q1 hb9.size ?_; intro v1 w1 hO1 hg1
                  refine hK.out _ _ ?h907 (fun hHeld => ?k907)
                  case h907 => ((try dsimp only); all_goals trivial)
                  clear hK K
                  try simp only [Act.put, List.setIfInBounds_toArray, List.set_cons_zero, List.set_cons_succ]
                  refine wpAnyH_take (i := 6) (oi := { dst := some 12, op := Go.Op.assign (Go.Operand.tmp 178), type := 23, pos := "enc_name.go:128", after := #[{ on := 2, ground := Go.Ground.data }, { on := 2, ground := Go.Ground.chain }, { on := 0, ground := Go.Ground.phase }, { on := 1, ground := Go.Ground.phase }, { on := 2, ground := Go.Ground.phase }, { on := 3, ground := Go.Ground.textOnly Go.Departure.lateStores }, { on := 4, ground := Go.Ground.textOnly Go.Departure.lateStores }, { on := 5, ground := Go.Ground.textOnly Go.Departure.lateStoresUnsure }], guard := none }) (v := ?v908) rfl (by kernel_rfl) (by kernel_rfl) (by kernel_rfl) (fun _ _ _ h => h) (Or.inl ⟨by rfl, ?y908⟩) (by assumption) ?r908
                  case y908 => (intro w hSw; (try dsimp only at hSw); first | (go_simp; done) | (go_simp; with_reducible rfl))
                  try simp only [Act.put, List.setIfInBounds_toArray, List.set_cons_zero, List.set_cons_succ]
                  refine wpAnyH_take (i := 7) (oi := { dst := some 7, op := Go.Op.assign (Go.Operand.tmp 181), type := 47, pos := "enc_name.go:128", after := #[{ on := 5, ground := Go.Ground.data }, { on := 6, ground := Go.Ground.chain }, { on := 0, ground := Go.Ground.phase }, { on := 1, ground := Go.Ground.phase }, { on := 2, ground := Go.Ground.phase }, { on := 3, ground := Go.Ground.phase }, { on := 4, ground := Go.Ground.phase }, { on := 5, ground := Go.Ground.phase }, { on := 6, ground := Go.Ground.phase }], guard := none }) (v := ?v909) rfl (by kernel_rfl) (by kernel_rfl) (by kernel_rfl) (fun _ _ _ h => h) (Or.inl ⟨by rfl, ?y909⟩) (by assumption) ?r909
                  case y909 => (intro w hSw; (try dsimp only at hSw); first | (go_simp; done) | (go_simp; with_reducible rfl))
                  try simp only [Act.put, List.setIfInBounds_toArray, List.set_cons_zero, List.set_cons_succ]
                  refine wpAnyH_done (by kernel_rfl) ?_ _
                  refine NoPanic.normal ?_
                  rw [hcb, ← List.map_append] at hO1
                  have hbz : Below w6.heap.size w6 w1 := hb9.grown hg1 hb9.size (fun k hk => (hO8.lt k hk).1)
                  go_wp2_with fail
                  go_roundg g'
                  case measure => exact Nat.lt_succ_self _
                  case rel => exact ⟨A', cq - j, G2, out ++ Xb, rfl, hC9, hcl, q2.out, hPr8, q3.out, hO1, hbz, q4.out, hH3⟩
    · obtain ⟨g', rfl⟩ : ∃ g', gk = g' + 1 := ⟨gk - 1, by omega⟩
      have hi4' : (i : Int) < 4 := by omega
      have hn := hno
      have hcell : wr.cell? ⟨w.heap.size, 0, none⟩ = some (.int .u64 m) := by rw [Lib.cell_of_heap hmm]; rfl
      have hcell2 : ∀ o, (wr.alloc o).cell? ⟨w.heap.size, 0, none⟩ = some (.int .u64 m) := fun o => ((below_alloc (Below.refl _ wr) o).cell (p := ⟨w.heap.size, 0, none⟩) (by show w.heap.size < wr.heap.size; omega)).trans hcell
      have hbx : ∀ o, Below w.heap.size w (wr.alloc o) := fun o => hb.alloc (by omega) o
      rcases (show i = 0 ∨ i = 1 ∨ i = 2 ∨ i = 3 by omega) with rfl | rfl | rfl | rfl
      · have x0 : wr.cell? ⟨w.heap.size + 1, 0, none⟩ = some (.string ⟨#[46]⟩) := by rw [Lib.cell_of_heap hdd]; rfl
        have x1 : wr.cell? ⟨w.heap.size + 1, 1, none⟩ = some (.string ⟨#[239, 188, 142]⟩) := by rw [Lib.cell_of_heap hdd]; rfl
        have q := hcU 0
        rw [hhd] at q
        cases hd with
        | true =>
          cases hq : (s.toList == dE 0) with
          | true =>
            have hq' : (s.toList == [239, 188, 142]) = true := hq
            rw [hq] at q
            have hfin := hdot _ (undot_hit (by omega) hno q)
            clear q hq hno hn hdot hnone hcU
            go_wp2
            go_ret
            exact ⟨by rw [hfin]; rfl, hbx _⟩
          | false =>
            have hq' : (s.toList == [239, 188, 142]) = false := hq
            rw [hq] at q
            have hno2 : ∀ j, j < 1 → cU m s j = false := fun j hj => by
              rcases (show j < 0 ∨ j = 0 by omega) with h | rfl
              · exact hno j h
              · exact q
            have hcast : wrap64 (((0 : Nat) : Int) + 1) = ((1 : Nat) : Int) := w64n (p := 0) (k := 1) (by omega)
            clear q hno hn hdot hnone hcU
            go_wp2
            go_roundg g'
            case measure => omega
            case rel => exact ⟨1, rfl, by omega, by omega, hbx _, by simp; omega, by rw [heap_alloc_old wr _ (by omega)]; exact hmm, by rw [heap_alloc_old wr _ (by omega)]; exact hdd, hno2⟩
        | false =>
            rw [Bool.false_and] at q
            have hno2 : ∀ j, j < 1 → cU m s j = false := fun j hj => by
              rcases (show j < 0 ∨ j = 0 by omega) with h | rfl
              · exact hno j h
              · exact q
            have hcast : wrap64 (((0 : Nat) : Int) + 1) = ((1 : Nat) : Int) := w64n (p := 0) (k := 1) (by omega)
            clear q hno hn hdot hnone hcU
            go_wp2
            go_roundg g'
            case measure => omega
            case rel => exact ⟨1, rfl, by omega, by omega, hbx _, by simp; omega, by rw [heap_alloc_old wr _ (by omega)]; exact hmm, by rw [heap_alloc_old wr _ (by omega)]; exact hdd, hno2⟩
      · have x0 : wr.cell? ⟨w.heap.size + 1, 2, none⟩ = some (.string ⟨#[46, 46]⟩) := by rw [Lib.cell_of_heap hdd]; rfl
        have x1 : wr.cell? ⟨w.heap.size + 1, 3, none⟩ = some (.string ⟨#[239, 188, 142, 239, 188, 142]⟩) := by rw [Lib.cell_of_heap hdd]; rfl
        have q := hcU 1
        rw [hhd] at q
        cases hd with
        | true =>
          cases hq : (s.toList == dE 1) with
          | true =>
            have hq' : (s.toList == [239, 188, 142, 239, 188, 142]) = true := hq
            rw [hq] at q
            have hfin := hdot _ (undot_hit (by omega) hno q)
            clear q hq hno hn hdot hnone hcU
            go_wp2
            go_ret
            exact ⟨by rw [hfin]; rfl, hbx _⟩
          | false =>
            have hq' : (s.toList == [239, 188, 142, 239, 188, 142]) = false := hq
            rw [hq] at q
            have hno2 : ∀ j, j < 2 → cU m s j = false := fun j hj => by
              rcases (show j < 1 ∨ j = 1 by omega) with h | rfl
              · exact hno j h
              · exact q
            have hcast : wrap64 (((1 : Nat) : Int) + 1) = ((2 : Nat) : Int) := w64n (p := 1) (k := 1) (by omega)
            clear q hno hn hdot hnone hcU
            go_wp2
            go_roundg g'
            case measure => omega
            case rel => exact ⟨2, rfl, by omega, by omega, hbx _, by simp; omega, by rw [heap_alloc_old wr _ (by omega)]; exact hmm, by rw [heap_alloc_old wr _ (by omega)]; exact hdd, hno2⟩
        | false =>
            rw [Bool.false_and] at q
            have hno2 : ∀ j, j < 2 → cU m s j = false := fun j hj => by
              rcases (show j < 1 ∨ j = 1 by omega) with h | rfl
              · exact hno j h
              · exact q
            have hcast : wrap64 (((1 : Nat) : Int) + 1) = ((2 : Nat) : Int) := w64n (p := 1) (k := 1) (by omega)
            clear q hno hn hdot hnone hcU
            go_wp2
            go_roundg g'
            case measure => omega
            case rel => exact ⟨2, rfl, by omega, by omega, hbx _, by simp; omega, by rw [heap_alloc_old wr _ (by omega)]; exact hmm, by rw [heap_alloc_old wr _ (by omega)]; exact hdd, hno2⟩
      · have x0 : wr.cell? ⟨w.heap.size + 1, 4, none⟩ = some (.string ⟨#[239, 188, 142]⟩) := by rw [Lib.cell_of_heap hdd]; rfl
        have x1 : wr.cell? ⟨w.heap.size + 1, 5, none⟩ = some (.string ⟨#[226, 128, 155, 239, 188, 142]⟩) := by rw [Lib.cell_of_heap hdd]; rfl
        have q := hcU 2
        rw [hhd] at q
        cases hd with
        | true =>
          cases hq : (s.toList == dE 2) with
          | true =>
            have hq' : (s.toList == [226, 128, 155, 239, 188, 142]) = true := hq
            rw [hq] at q
            have hfin := hdot _ (undot_hit (by omega) hno q)
            clear q hq hno hn hdot hnone hcU
            go_wp2
            go_ret
            exact ⟨by rw [hfin]; rfl, hbx _⟩
          | false =>
            have hq' : (s.toList == [226, 128, 155, 239, 188, 142]) = false := hq
            rw [hq] at q
            have hno2 : ∀ j, j < 3 → cU m s j = false := fun j hj => by
              rcases (show j < 2 ∨ j = 2 by omega) with h | rfl
              · exact hno j h
              · exact q
            have hcast : wrap64 (((2 : Nat) : Int) + 1) = ((3 : Nat) : Int) := w64n (p := 2) (k := 1) (by omega)
            clear q hno hn hdot hnone hcU
            go_wp2
            go_roundg g'
            case measure => omega
            case rel => exact ⟨3, rfl, by omega, by omega, hbx _, by simp; omega, by rw [heap_alloc_old wr _ (by omega)]; exact hmm, by rw [heap_alloc_old wr _ (by omega)]; exact hdd, hno2⟩
        | false =>
            rw [Bool.false_and] at q
            have hno2 : ∀ j, j < 3 → cU m s j = false := fun j hj => by
              rcases (show j < 2 ∨ j = 2 by omega) with h | rfl
              · exact hno j h
              · exact q
            have hcast : wrap64 (((2 : Nat) : Int) + 1) = ((3 : Nat) : Int) := w64n (p := 2) (k := 1) (by omega)
            clear q hno hn hdot hnone hcU
            go_wp2
            go_roundg g'
            case measure => omega
            case rel => exact ⟨3, rfl, by omega, by omega, hbx _, by simp; omega, by rw [heap_alloc_old wr _ (by omega)]; exact hmm, by rw [heap_alloc_old wr _ (by omega)]; exact hdd, hno2⟩
      · have x0 : wr.cell? ⟨w.heap.size + 1, 6, none⟩ = some (.string ⟨#[239, 188, 142, 239, 188, 142]⟩) := by rw [Lib.cell_of_heap hdd]; rfl
        have x1 : wr.cell? ⟨w.heap.size + 1, 7, none⟩ = some (.string ⟨#[226, 128, 155, 239, 188, 142, 226, 128, 155, 239, 188, 142]⟩) := by rw [Lib.cell_of_heap hdd]; rfl
        have q := hcU 3
        rw [hhd] at q
        cases hd with
        | true =>
          cases hq : (s.toList == dE 3) with
          | true =>
            have hq' : (s.toList == [226, 128, 155, 239, 188, 142, 226, 128, 155, 239, 188, 142]) = true := hq
            rw [hq] at q
            have hfin := hdot _ (undot_hit (by omega) hno q)
            clear q hq hno hn hdot hnone hcU
            go_wp2
            go_ret
            exact ⟨by rw [hfin]; rfl, hbx _⟩
          | false =>
            have hq' : (s.toList == [226, 128, 155, 239, 188, 142, 226, 128, 155, 239, 188, 142]) = false := hq
            rw [hq] at q
            have hno2 : ∀ j, j < 4 → cU m s j = false := fun j hj => by
              rcases (show j < 3 ∨ j = 3 by omega) with h | rfl
              · exact hno j h
              · exact q
            have hcast : wrap64 (((3 : Nat) : Int) + 1) = ((4 : Nat) : Int) := w64n (p := 3) (k := 1) (by omega)
            clear q hno hn hdot hnone hcU
            go_wp2
            go_roundg g'
            case measure => omega
            case rel => exact ⟨4, rfl, by omega, by omega, hbx _, by simp; omega, by rw [heap_alloc_old wr _ (by omega)]; exact hmm, by rw [heap_alloc_old wr _ (by omega)]; exact hdd, hno2⟩
        | false =>
            rw [Bool.false_and] at q
            have hno2 : ∀ j, j < 4 → cU m s j = false := fun j hj => by
              rcases (show j < 3 ∨ j = 3 by omega) with h | rfl
              · exact hno j h
              · exact q
            have hcast : wrap64 (((3 : Nat) : Int) + 1) = ((4 : Nat) : Int) := w64n (p := 3) (k := 1) (by omega)
            clear q hno hn hdot hnone hcU
            go_wp2
            go_roundg g'
            case measure => omega
            case rel => exact ⟨4, rfl, by omega, by omega, hbx _, by simp; omega, by rw [heap_alloc_old wr _ (by omega)]; exact hmm, by rw [heap_alloc_old wr _ (by omega)]; exact hdd, hno2⟩
end Go.Proofs.YtonmnpmklkbioaaDoor.Given
