/- 3 texts of this claim, one behind the other. -/
import Derived.Test.YtonmnpmklkbioaaDoorGo
import Derived.Test.YtonmnpmklkbioaaDoorGm
/- A name to Standard's writing: the steps of ToStandardName. -/
namespace Go.Proofs.YtonmnpmklkbioaaDoor.Given
open Go.RowKit Go.Proofs.YtonmnpmklkbioaaDoorW.PrintWords Go.Proofs.YtonmnpmklkbioaaDoorW.PrintLast Go.Proofs.YtonmnpmklkbioaaDoorW.PrintMore Go.Proofs.YtonmnpmklkbioaaDoor.PN
open Go.Proofs.YtonmnpmklkbioaaDoor.Sy (tl strB tl_size strB_tl tl_strB tkm tkm_ok hasB ErrOk)
set_option linter.unusedVariables false
set_option linter.unusedSimpArgs false
theorem d43 (m : Int) (w : World) : (method 264 43 (.int .u64 m) "Decode").run Tryd.prog w = .ok (44, .int .u64 m) w := by kernel_rfl
/-- The name to Standard's writing. -/
def toN (m : Int) (s : ByteArray) : ByteArray := if m = 33652738 then s else encN 33652738 (decN m s)
set_option maxHeartbeats 2000000 in
set_option maxRecDepth 100000 in
theorem to50 (m : Int) (s : ByteArray) (w : World) (hs : s.size ≤ 100000000) (hW : Wo w) :
    Calls Tryd.prog 50 #[.iface 43 (.int .u64 m), .string s] w fun e w' => e = .returned (.string (toN m s)) ∧ Below w.heap.size w w' := by
  have heq := fun (W : World) => Lib.run_eql_iface_int (P := Tryd.prog) W (t := 58) (tx := 43) (k := .u64) m 33652738 Tryd.underlying58 (by kernel_rfl) Tryd.underlying43
  by_cases hm : m = 33652738
  · have e : toN m s = s := by unfold toN; rw [if_pos hm]
    rw [e]
    subst hm
    rw [show ((33652738 : Int) == 33652738) = true from rfl] at heq
    go_enter Tryd.func50, Tryd.ntmps50
    go_wp2
    go_ret
    exact ⟨rfl, Below.refl _ _⟩
  · have e : toN m s = encN 33652738 (decN m s) := by unfold toN; rw [if_neg hm]
    have hm1 : (m == 33652738) = false := by rw [beq_eq_false_iff_ne]; exact hm
    rw [e]
    rw [hm1] at heq
    have c44 := fun W (h : Wo W) => Sy.calls44 m s W (by omega) h.tabs h.err
    have c35 := fun W (h : Wo W) => Sy.calls35 33652738 (decN m s) W (by have := decN_size m s; omega) h.tabs
    rw [decO_is] at c44
    rw [encO_is] at c35
    obtain ⟨t, ht⟩ : ∃ t, decN m s = t := ⟨_, rfl⟩
    rw [ht] at c44 c35 ⊢
    obtain ⟨u, hu⟩ : ∃ u, encN 33652738 t = u := ⟨_, rfl⟩
    rw [hu] at c35 ⊢
    have hdd := d43 m
    clear ht hu e hm
    go_enter Tryd.func50, Tryd.ntmps50
    go_wp2_with (first | (go_at_call 44; refine (c44 _ hW).mono ?_; rintro e w1 ⟨rfl, h1⟩; have g1 := hW.below h1; clear c44) | (go_at_call 35; refine (c35 _ g1).mono ?_; rintro e w2 ⟨rfl, h2⟩; clear c35))
    go_ret
    exact ⟨rfl, h1.trans (h2.mono h1.size)⟩
end Go.Proofs.YtonmnpmklkbioaaDoor.Given
/- ToStandardPath: the pieces of a path, each changed. -/
namespace Go.Proofs.YtonmnpmklkbioaaDoor.Given
open Go.RowKit Go.Proofs.YtonmnpmklkbioaaDoorW.PrintWords Go.Proofs.YtonmnpmklkbioaaDoorW.PrintLast Go.Proofs.YtonmnpmklkbioaaDoorW.PrintMore Go.Proofs.YtonmnpmklkbioaaDoor.PN
open Go.Proofs.YtonmnpmklkbioaaDoor.Pt (pieces pieces_ne pieces_len pieces_sum joined joined_pieces joined_cons joined_len)
open Go.Proofs.YtonmnpmklkbioaaDoor.Sy (tl strB tl_size strB_tl tl_strB size_strB)
set_option linter.unusedVariables false
set_option linter.unusedSimpArgs false
/-- What becomes of a piece, to Standard's writing. -/
def toP (m : Int) (p : List UInt8) : List UInt8 := tl (toN m (strB p))
theorem toP_len (m : Int) (p : List UInt8) : (toP m p).length ≤ 48 * p.length + 200 := by
  unfold toP
  rw [tl_size]
  unfold toN
  split
  · rw [size_strB]; omega
  · have h1 := decN_size m (strB p)
    have h2 := encN_size 33652738 (decN m (strB p))
    rw [size_strB] at h1
    omega
theorem patht_len (m : Int) (s : ByteArray) (hs : s.size ≤ 10000000) : (joined ((pieces [] (tl s)).map (toP m))).length ≤ 3000000000 := by
  have hpl := pieces_len (tl s) []
  have hps := pieces_sum (tl s) []
  rw [tl_size] at hpl hps
  have h1 := joined_len ((pieces [] (tl s)).map (toP m))
  have h2 : ∀ Q : List (List UInt8), ((Q.map (toP m)).map List.length).sum ≤ 48 * (Q.map List.length).sum + 200 * Q.length := by
    intro Q
    induction Q with
    | nil => simp
    | cons q Q ih =>
      have := toP_len m q
      simp only [List.map_cons, List.sum_cons, List.length_cons]
      omega
  have h3 := h2 (pieces [] (tl s))
  rw [List.length_map] at h1
  simp only [List.length_nil, Nat.zero_add] at hps
  omega
set_option maxHeartbeats 8000000 in
set_option maxRecDepth 100000 in
theorem path74 (m : Int) (s : ByteArray) (w : World) (hs : s.size ≤ 10000000) (hW : Wo w) (hm : m ≠ 33652738) :
    Calls Tryd.prog 74 #[.iface 43 (.int .u64 m), .string s] w fun e w' => e = .returned (.string (strB (joined ((pieces [] (tl s)).map (toP m))))) ∧ Below w.heap.size w w' := by
  have hm1 : (m == 33652738) = false := by rw [beq_eq_false_iff_ne]; exact hm
  have heq := fun (W : World) => Lib.run_eql_iface_int (P := Tryd.prog) W (t := 58) (tx := 43) (k := .u64) m 33652738 Tryd.underlying58 (by kernel_rfl) Tryd.underlying43
  rw [hm1] at heq
  have c83 := fun W => split83 s W (by omega)
  have hpn : pieces [] (tl s) ≠ [] := pieces_ne _ _
  have hpl := pieces_len (tl s) []
  have hps := pieces_sum (tl s) []
  rw [tl_size] at hpl hps
  have hid : (∀ p ∈ pieces [] (tl s), toP m p = p) → strB (joined ((pieces [] (tl s)).map (toP m))) = s := by
    intro h
    have : (pieces [] (tl s)).map (toP m) = pieces [] (tl s) := by
      conv => rhs; rw [← List.map_id (pieces [] (tl s))]
      exact List.map_congr_left h
    rw [this, joined_pieces, List.nil_append, strB_tl]
  have hjl := patht_len m s hs
  obtain ⟨P, hP⟩ : ∃ P, pieces [] (tl s) = P := ⟨_, rfl⟩
  rw [hP] at c83 hpn hpl hps hid hjl ⊢
  clear hP
  have c50 := fun W (p : List UInt8) (hp : p.length ≤ 100000000) (h : Wo W) => to50 m (strB p) W (by rw [size_strB]; omega) h
  have hfr : ∀ p, toN m (strB p) = strB (toP m p) := fun p => by unfold toP; rw [strB_tl]
  simp only [hfr] at c50
  have hel : ∀ p ∈ P, p.length ≤ 10000000 := by
    intro p hp
    have : ∀ Q : List (List UInt8), p ∈ Q → p.length ≤ (Q.map List.length).sum := by
      intro Q
      induction Q with
      | nil => intro h; cases h
      | cons q Q ih =>
        intro h
        simp only [List.map_cons, List.sum_cons]
        rcases List.mem_cons.1 h with rfl | h
        · omega
        · have := ih h; omega
    have := this P hp
    simp at hps
    omega
  obtain ⟨F, hF⟩ : ∃ F, toP m = F := ⟨_, rfl⟩
  rw [hF] at c50 hjl hid ⊢
  clear hF hfr hps
  obtain ⟨n, hn⟩ : ∃ n, P.length = n := ⟨_, rfl⟩
  have hn2 : Hid (P.length = n) := hn
  have hn0 : Hid (0 < n) := Lib.hid (by rw [← hn]; exact List.length_pos_iff.2 hpn)
  have hn1 : Hid (n ≤ 10000001) := Lib.hid (by omega)
  rw [hn] at c83
  have hid2 : Hid ((∀ p ∈ P, F p = p) → strB (joined (P.map F)) = s) := hid
  have hjl2 : Hid ((joined (P.map F)).length ≤ 3000000000) := hjl
  have hel2 : Hid (∀ p ∈ P, p.length ≤ 10000000) := hel
  clear hn hpn hpl hid hjl hel hs hm1 hm
  obtain ⟨R, hR⟩ : ∃ R, strB (joined (P.map F)) = R := ⟨_, rfl⟩
  have hR2 : Hid (strB (joined (P.map F)) = R) := hR
  rw [hR]
  clear hR
  have hmk := print_make_of (P := Tryd.prog) 40 9 (.string ⟨#[]⟩) 16 Tryd.underlying40 info9 rfl (by decide) n (by have := hn1.out; omega)
  go_enter Tryd.func74, Tryd.ntmps74
  go_wp2_with (go_at_call 83; refine (c83 _).mono ?_; rintro e w1 ⟨v, rfl, HP, h1⟩; clear c83; obtain ⟨gp, cap, rfl, hgb, hgl⟩ := HP.form hn0.out)
  have hsz1 := h1.size
  have HP2 := own_move (w1 := w1.alloc (.cells (madeCells #[.string ⟨#[]⟩] n) 9)) HP (fun k hk => by
    have hk2 := own_lt HP k hk
    exact Below.heap_alloc _ _ _ hk2)
  have HE := own_made_of (enc := encP) (d := []) w1 w.heap.size 9 n hsz1 (by have := hn1.out; omega)
  have hB2 : Below w.heap.size w (w1.alloc (.cells (madeCells #[.string ⟨#[]⟩] n) 9)) := h1.alloc hsz1 _
  obtain ⟨g, hg⟩ : ∃ g, w1.heap.size = g := ⟨_, rfl⟩
  have hgg : gp < g := by omega
  have hE0 : encP [] = .string ⟨#[]⟩ := rfl
  rw [hE0] at HE
  have hgw : w.heap.size ≤ g := by omega
  obtain ⟨w2, hw2⟩ : ∃ w2, w1.alloc (.cells (madeCells #[.string ⟨#[]⟩] n) 9) = w2 := ⟨_, rfl⟩
  have hgl2 : g < w2.heap.size := by rw [← hw2, ← hg]; simp
  rw [hw2] at HP2 HE hB2 ⊢
  rw [hg] at HE ⊢
  clear HP h1 hsz1 hgl hw2 hE0
  have HE2 : w2.ownsRow w.heap.size 9 1 (.slice (some ⟨g, 0, none⟩) n n) n (encs encP (rowE P F 0)) := by
    rw [rowE_zero, hn2.out]; exact HE
  clear HE hg
  go_loopg [7, 22] n (fun gf s7 s22 wx => ∃ i : Nat, s22 = .int .i64 (i : Int) ∧ s7 = .bool (chP P F i) ∧ i ≤ n ∧ n ≤ i + gf ∧ Below w.heap.size w wx ∧ wx.ownsRow w.heap.size 9 1 (.slice (some ⟨gp, 0, none⟩) n cap) n (encs encP P) ∧ wx.ownsRow w.heap.size 9 1 (.slice (some ⟨g, 0, none⟩) n n) n (encs encP (rowE P F i)))
  case atStart => exact ⟨0, rfl, rfl, Nat.zero_le _, by omega, hB2, HP2, HE2⟩
  case round =>
    clear HP2 HE2 hB2 hgl2
    obtain ⟨i, rfl, rfl, hi, hgf, HB, HP, HE⟩ := hrel
    have hn1' := hn1.out
    by_cases hin : i < n
    · obtain ⟨g', rfl⟩ : ∃ g', gk = g' + 1 := ⟨gk - 1, by omega⟩
      have hiP : i < P.length := by rw [hn2.out]; exact hin
      have hset := rowE_set (F := F) hiP
      have hch := chP_succ (F := F) hiP
      have hgetx : P.getD i [] = P[i] := by simp [List.getD, hiP]
      have hpl : (P.getD i []).length ≤ 10000000 := by rw [hgetx]; exact hel2.out _ (List.getElem_mem hiP)
      have hcp := (own_at_of (d := []) HP (i : Int) (by omega) (by omega)).1
      have hrd : rdOf [] P (i : Int) = P.getD i [] := rfl
      rw [hrd, Int.toNat_natCast] at hcp
      have hglt : ∀ k, (Value.slice (some ⟨g, 0, none⟩) n n).ownBlock = some k → k < wr.heap.size := own_lt HE
      have hglt' : g < wr.heap.size := hglt g rfl
      obtain ⟨p, hp⟩ : ∃ p, P.getD i [] = p := ⟨_, rfl⟩
      rw [hp] at hset hch hpl hcp
      have hcp2 : wr.cell? ⟨gp, i, none⟩ = some (.string (strB p)) := hcp
      have cc := fun W h => c50 W p (by omega) h
      have hWr : Wo wr := hW.below HB
      have w1 : wrap64 ((i : Int) + 1) = ((i + 1 : Nat) : Int) := w64n (k := 1) (by omega)
      have c1 : (i : Int) < (n : Int) := by omega
      have hset2 : Hid ((rowE P F i).set i (F p) = rowE P F (i + 1)) := hset
      have hb0 : ((strB (F p)).toList == (strB p).toList) = (F p == p) := by rw [strB_toList, strB_toList]
      have hch2 : chP P F (i + 1) = (chP P F i || !(F p == p)) := hch
      obtain ⟨b, hb⟩ : ∃ b, chP P F i = b := ⟨_, rfl⟩
      obtain ⟨b', hb'⟩ : ∃ b', (F p == p) = b' := ⟨_, rfl⟩
      have hch3 : Hid (chP P F (i + 1) = (b || !b')) := Lib.hid (by rw [hch2, hb, hb'])
      rw [hb'] at hb0
      rw [hb]
      have henc : encP (F p) = .string (strB (F p)) := rfl
      have hFp : Hid (encP (F p) = .string (strB (F p))) := henc
      obtain ⟨S1, hS1⟩ : ∃ S1, strB (F p) = S1 := ⟨_, rfl⟩
      obtain ⟨S2, hS2⟩ : ∃ S2, strB p = S2 := ⟨_, rfl⟩
      have hFp2 : Hid (encP (F p) = .string S1) := Lib.hid (by rw [henc, hS1])
      rw [hS1] at cc hb0
      rw [hS2] at cc hb0 hcp2
      have hgi2 : Hid (i + 1 ≤ n ∧ n ≤ i + 1 + g') := Lib.hid (by omega)
      have hin2 : Hid (i < n) := hin
      clear c50 hset hch hcp hgetx hel2 hpl hb hb' hch2 henc hFp hS1 hS2 hp hrd hiP hi hgf hid2 hjl2 hR2 hglt hmk hin
      cases b <;> cases b' <;> (
        go_wp2_with (go_at_call 50; refine (cc _ hWr).mono ?_; rintro e w3 ⟨rfl, h3⟩; clear cc; have HE3 := own_move (w1 := w3) HE (fun k hk => h3.block k (own_lt HE k hk)); have HP3 := own_move (w1 := w3) HP (fun k hk => h3.block k (own_lt HP k hk)); have hB3 := HB.trans (h3.mono HB.size); have hce := own_at_of (d := []) HE3 (i : Int) (by omega) (by have := hin2.out; omega); rw [Int.toNat_natCast] at hce; obtain ⟨hce1, hce2⟩ := hce)
        go_roundg g'
        case measure => omega
        case rel =>
          have hst := own_store_of HE3 (i : Int) (F p)
          rw [Int.toNat_natCast, hset2.out, hFp2.out] at hst
          refine ⟨i + 1, by simp, by rw [hch3.out]; rfl, hgi2.out.1, hgi2.out.2, hB3.setCell hgw _, own_move HP3 (fun k hk => ?_), hst.1⟩
          have : gp = k := by simpa [Value.ownBlock] using hk
          exact Below.heap_setCell _ _ _ _ (by show k ≠ g; omega))
    · have hie : i = n := by omega
      subst hie
      have c1 : ((i : Int) < (i : Int)) = False := by simp
      have hEall : rowE P F i = P.map F := by rw [← hn2.out]; exact rowE_all P F
      rw [hEall] at HE
      obtain ⟨b, hb⟩ : ∃ b, chP P F i = b := ⟨_, rfl⟩
      rw [hb]
      cases b with
      | false =>
        have hno : R = s := by
          rw [← hR2.out]
          exact hid2.out (chP_no (by rw [hn2.out]; exact hb))
        have hno2 : Hid (R = s) := hno
        clear hb hno c50 hid2 hjl2 hR2 hel2 hn2 hmk
        go_wp2
        go_ret
        exact ⟨congrArg (fun v => Ending.returned (Value.string v)) hno2.out.symm, HB⟩
      | true =>
        have hcl : ∀ (j : Nat) x, ((P.map F).map strB)[j]? = some x → wr.cell? ⟨g, 0 + j, none⟩ = some (.string x) := by
          intro j x hx
          rw [List.getElem?_map] at hx
          obtain ⟨y, hy, rfl⟩ := Option.map_eq_some_iff.1 hx
          have hj : j < i := by
            have := (List.getElem?_eq_some_iff.1 hy).1
            rw [List.length_map, hn2.out] at this
            exact this
          have h1 := (own_at_of (d := []) HE (j : Int) (by omega) (by omega)).1
          rw [Int.toNat_natCast] at h1
          have h2 : rdOf [] (P.map F) (j : Int) = y := by
            show (P.map F).getD j [] = y
            simp [List.getD, hy]
          rw [h2] at h1
          rw [Nat.zero_add]
          exact h1
        have hlm : ((P.map F).map strB).length = i := by rw [List.length_map, List.length_map, hn2.out]
        have hjn : Lib.join (((P.map F).map strB).map (·.data.toList)) (⟨#[47]⟩ : ByteArray).data.toList = joined (P.map F) := by
          rw [List.map_map]
          have : (fun x : ByteArray => x.data.toList) ∘ strB = id := by
            funext l
            exact tl_strB l
          rw [this, List.map_id]
          exact join_joined _
        have c84 := Laid.join84 g 0 i ((P.map F).map strB) ⟨#[47]⟩ wr hcl (own_lt HE g rfl) (by rw [hlm]; omega) (by rw [hlm]; exact Nat.le_refl _) (by rw [hjn]; have := hjl2.out; omega)
        rw [hlm, hjn] at c84
        have hRR : (⟨(joined (P.map F)).toArray⟩ : ByteArray) = R := hR2.out
        rw [hRR] at c84
        have hBs := HB.size
        clear hb c50 hid2 hjl2 hR2 hel2 hn2 hmk hcl hlm hjn hRR hEall
        go_wp2_with (go_at_call 84; refine c84.mono ?_; rintro e w3 ⟨rfl, h3⟩)
        go_ret
        exact ⟨rfl, HB.trans (h3.mono hBs)⟩
/-- A path to Standard's writing. -/
def pathT (m : Int) (s : ByteArray) : ByteArray := strB (joined ((pieces [] (tl s)).map (toP m)))
set_option maxHeartbeats 2000000 in
theorem path74' (m : Int) (s : ByteArray) (w : World) (hs : s.size ≤ 10000000) (hW : Wo w) :
    Calls Tryd.prog 74 #[.iface 43 (.int .u64 m), .string s] w fun e w' => e = .returned (.string (pathT m s)) ∧ Below w.heap.size w w' := by
  by_cases hm : m = 33652738
  · have e : pathT m s = s := by
      refine pathN_id (f := toN m) (fun p _ => ?_)
      unfold toN
      rw [if_pos hm]
      exact tl_strB p
    rw [e]
    subst hm
    have heq := fun (W : World) => Lib.run_eql_iface_int (P := Tryd.prog) W (t := 58) (tx := 43) (k := .u64) 33652738 33652738 Tryd.underlying58 (by kernel_rfl) Tryd.underlying43
    rw [show ((33652738 : Int) == 33652738) = true from rfl] at heq
    go_enter Tryd.func74, Tryd.ntmps74
    go_wp2
    go_ret
    exact ⟨rfl, Below.refl _ _⟩
  · exact path74 m s w hs hW hm
theorem path54 (m : Int) (s : ByteArray) (w : World) (hs : s.size ≤ 10000000) (hW : Wo w) :
    Calls Tryd.prog 54 #[.int .u64 m, .string s] w fun e w' => e = .returned (.string (pathT m s)) ∧ Below w.heap.size w w' := by
  have c := path74' m s w hs hW
  obtain ⟨t, ht⟩ : ∃ t, pathT m s = t := ⟨_, rfl⟩
  rw [ht] at c ⊢
  clear ht
  go_enter Tryd.func54, Tryd.ntmps54
  go_wp2_with (go_at_call 74; refine c.mono ?_; rintro e w1 ⟨rfl, h1⟩)
  go_ret
  exact ⟨rfl, h1⟩
theorem path33 (m : Int) (s : ByteArray) (w : World) (hs : s.size ≤ 10000000) (hW : Wo w) :
    Calls Tryd.prog 33 #[.int .u64 m, .string s] w fun e w' => e = .returned (.string (pathT m s)) ∧ Below w.heap.size w w' := by
  have c := path54 m s w hs hW
  obtain ⟨t, ht⟩ : ∃ t, pathT m s = t := ⟨_, rfl⟩
  rw [ht] at c ⊢
  clear ht
  go_enter Tryd.func33, Tryd.ntmps33
  go_wp2_with (go_at_call 54; refine c.mono ?_; rintro e w1 ⟨rfl, h1⟩)
  go_ret
  exact ⟨rfl, h1⟩
end Go.Proofs.YtonmnpmklkbioaaDoor.Given
/- The walk of laws.FnPathPieces. -/
namespace Go.Proofs.YtonmnpmklkbioaaDoor.Given
open Go.RowKit Go.Lib Go.Proofs.YtonmnpmklkbioaaDoorW.PrintWords Go.Proofs.YtonmnpmklkbioaaDoorW.PrintLast Go.Proofs.YtonmnpmklkbioaaDoorW.PrintMore Go.Proofs.YtonmnpmklkbioaaDoor.PN
open Go.Proofs.YtonmnpmklkbioaaDoor.Pt (pieces pieces_ne pieces_two pieces_noslash joined joined_two)
open Go.Proofs.YtonmnpmklkbioaaDoor.Sy (tl strB tl_size strB_tl tl_strB size_strB)
set_option linter.unusedVariables false
set_option linter.unusedSimpArgs false
theorem short_two' (a b : ByteArray) (ha : a.size ≤ 2147483647) (hb : b.size ≤ 2147483647) : laws_encShort.f 4 [a, b] = some (decide (((a.size + b.size : Nat) : Int) ≤ 65536)) := by
  have h1 : wrap64 (0 + (a.size : Int)) = (a.size : Int) := by unfold wrap64; omega
  have h2 : wrap64 ((0 : Int) + 1) = 1 := by unfold wrap64; rfl
  have h4 : wrap64 ((1 : Int) + 1) = 2 := by unfold wrap64; rfl
  have h5 : wrap64 ((a.size : Int) + (b.size : Int)) = ((a.size + b.size : Nat) : Int) := w64n (by omega)
  have h3 : rdOf ByteArray.empty [a, b] 0 = a := rfl
  have h6 : rdOf ByteArray.empty [a, b] 1 = b := rfl
  unfold laws_encShort.f
  simp only [laws_encShort.l0, List.length_cons, List.length_nil, h3, h1, h2, h6, h5, h4]
  rw [if_pos (by decide), if_pos (by decide), if_pos (by decide), if_pos (by decide), if_pos (by decide), if_pos (by decide), if_neg (by decide)]
theorem path_two (f : List UInt8 → List UInt8) (a b : ByteArray) : strB (joined ((pieces [] (tl (a ++ ⟨#[47]⟩ ++ b))).map f)) = strB (joined ((pieces [] (tl a)).map f)) ++ ⟨#[47]⟩ ++ strB (joined ((pieces [] (tl b)).map f)) := by
  rw [tl_app, pieces_two, List.map_append, joined_two _ _ (by simp [pieces_ne]) (by simp [pieces_ne]), strB_app]
theorem path_one (f : List UInt8 → List UInt8) (a : ByteArray) (h : ∀ b ∈ tl a, b ≠ 47) : strB (joined ((pieces [] (tl a)).map f)) = strB (f (tl a)) := by
  rw [pieces_noslash _ _ h]
  rfl
set_option maxHeartbeats 2000000 in
set_option maxRecDepth 100000 in
theorem to34 (m : Int) (s : ByteArray) (w : World) (hs : s.size ≤ 100000000) (hW : Wo w) :
    Calls Tryd.prog 34 #[.int .u64 m, .string s] w fun e w' => e = .returned (.string (toN m s)) ∧ Below w.heap.size w w' := by
  have c := fun W h => to50 m s W hs h
  obtain ⟨t, ht⟩ : ∃ t, toN m s = t := ⟨_, rfl⟩
  rw [ht] at c ⊢
  clear ht
  have c55 : Calls Tryd.prog 55 #[.int .u64 m, .string s] w fun e w' => e = .returned (.string t) ∧ Below w.heap.size w w' := by
    go_enter Tryd.func55, Tryd.ntmps55
    go_wp2_with (go_at_call 50; refine (c _ hW).mono ?_; rintro e w1 ⟨rfl, h1⟩)
    go_ret
    exact ⟨rfl, h1⟩
  go_enter Tryd.func34, Tryd.ntmps34
  go_wp2_with (go_at_call 55; refine c55.mono ?_; rintro e w1 ⟨rfl, h1⟩)
  go_ret
  exact ⟨rfl, h1⟩
theorem size_app (a b : ByteArray) : (a ++ ⟨#[47]⟩ ++ b).size = a.size + 1 + b.size := by
  have h := congrArg List.length (tl_app a b)
  rw [tl_size, List.length_append, List.length_cons, tl_size, tl_size] at h
  omega
set_option maxHeartbeats 4000000 in
set_option maxRecDepth 100000 in
theorem law13 (m : Int) (a b : ByteArray) (w : World) (hW : Wo w) : Calls Tryd.prog 13 #[.int .u64 m, .string a, .string b] w fun e w' => e = .returned (.bool true) ∧ Below w.heap.size w w' := by
  by_cases ha : a.size ≤ 2147483647
  · have ha1 : ((a.size : Int) > 2147483647) = False := by simp; omega
    by_cases hb : b.size ≤ 2147483647
    · have hb1 : ((b.size : Int) > 2147483647) = False := by simp; omega
      have hbw : ∀ os, Below w.heap.size w (w.alloc os) := fun os => (Below.refl _ w).alloc (Nat.le_refl _) _
      have hrow : Kd.C Kd.string (w.alloc (.cells #[.string a, .string b] 9)) (some ⟨w.heap.size, 0, none⟩) [a, b].length [a, b] := by
        refine ⟨rfl, by simp, fun _ => ⟨_, rfl, fun j p hj => ?_⟩⟩
        match j, hj with
        | 0, hj =>
          cases hj
          exact ⟨[.string a], rfl, rfl, fun i u hu => by
            match i, hu with
            | 0, hu => cases hu; simp [Addr.add]⟩
        | 1, hj =>
          cases hj
          exact ⟨[.string b], rfl, rfl, fun i u hu => by
            match i, hu with
            | 0, hu => cases hu; simp [Addr.add, Kd.string, Kd.scalar]⟩
      have hsh := short_two' a b ha hb
      obtain ⟨s, hs⟩ : ∃ s, decide (((a.size + b.size : Nat) : Int) ≤ 65536) = s := ⟨_, rfl⟩
      rw [hs] at hsh
      have c16 := laws_encShort.calls 4 (some ⟨w.heap.size, 0, none⟩) 2 [a, b] s _ hrow (Nat.le_refl 2) hsh
      have hB1 : ∀ os n, Below w.heap.size w ((w.alloc os).drewN n) := fun os n => below_drewN' (hbw os) n
      cases s with
      | false =>
        clear hsh hrow hs ha hb hW
        go_enter Tryd.func13, Tryd.ntmps13
        go_wp2_with (go_at_call 16; refine c16.mono ?_; rintro e w1 ⟨rfl, ⟨n, rfl⟩⟩)
        go_ret
        exact ⟨rfl, hB1 _ _⟩
      | true =>
        have hsz : ((a.size + b.size : Nat) : Int) ≤ 65536 := of_decide_eq_true hs
        have hsa := size_app a b
        have x28 := fun W (h : Wo W) => path28 m (a ++ ⟨#[47]⟩ ++ b) W (by omega) h
        have a28 := fun W (h : Wo W) => path28 m a W (by omega) h
        have b28 := fun W (h : Wo W) => path28 m b W (by omega) h
        have x33 := fun W (h : Wo W) => path33 m (a ++ ⟨#[47]⟩ ++ b) W (by omega) h
        have a33 := fun W (h : Wo W) => path33 m a W (by omega) h
        have b33 := fun W (h : Wo W) => path33 m b W (by omega) h
        have c22 := fun W (h : Wo W) => from22 m a W (by omega) h
        have c34 := fun W (h : Wo W) => to34 m a W (by omega) h
        have e28 : pathF m (a ++ ⟨#[47]⟩ ++ b) = pathF m a ++ ⟨#[47]⟩ ++ pathF m b := path_two _ a b
        have e33 : pathT m (a ++ ⟨#[47]⟩ ++ b) = pathT m a ++ ⟨#[47]⟩ ++ pathT m b := path_two _ a b
        have o28 : Hid ((∀ b ∈ tl a, b ≠ 47) → pathF m a = fromN m a) := Lib.hid (fun h => by
          show strB _ = _
          rw [path_one _ a h]
          unfold frP
          rw [strB_tl, strB_tl])
        have o33 : Hid ((∀ b ∈ tl a, b ≠ 47) → pathT m a = toN m a) := Lib.hid (fun h => by
          show strB _ = _
          rw [path_one _ a h]
          unfold toP
          rw [strB_tl, strB_tl])
        rw [e28] at x28
        rw [e33] at x33
        have z1 : (pathF m a).size ≤ 3000000000 := by show (strB _).size ≤ _; rw [size_strB]; exact path_len m a (by omega)
        have z2 : (pathF m b).size ≤ 3000000000 := by show (strB _).size ≤ _; rw [size_strB]; exact path_len m b (by omega)
        have z3 : (pathT m a).size ≤ 3000000000 := by show (strB _).size ≤ _; rw [size_strB]; exact patht_len m a (by omega)
        have z4 : (pathT m b).size ≤ 3000000000 := by show (strB _).size ≤ _; rw [size_strB]; exact patht_len m b (by omega)
        obtain ⟨t1, ht1⟩ : ∃ t, pathF m a = t := ⟨_, rfl⟩
        obtain ⟨t2, ht2⟩ : ∃ t, pathF m b = t := ⟨_, rfl⟩
        obtain ⟨t3, ht3⟩ : ∃ t, pathT m a = t := ⟨_, rfl⟩
        obtain ⟨t4, ht4⟩ : ∃ t, pathT m b = t := ⟨_, rfl⟩
        obtain ⟨t5, ht5⟩ : ∃ t, fromN m a = t := ⟨_, rfl⟩
        obtain ⟨t6, ht6⟩ : ∃ t, toN m a = t := ⟨_, rfl⟩
        rw [ht1] at x28 a28 o28 z1
        rw [ht2] at x28 b28 z2
        rw [ht3] at x33 a33 o33 z3
        rw [ht4] at x33 b33 z4
        have y1 : (9223372036854775807 < a.size + 1) = False := by simp; omega
        have y2 : (9223372036854775807 < a.size + 1 + b.size) = False := by simp; omega
        have y3 : (9223372036854775807 < t1.size + 1) = False := by simp; omega
        have y4 : (9223372036854775807 < t1.size + 1 + t2.size) = False := by simp; omega
        have y5 : (9223372036854775807 < t3.size + 1) = False := by simp; omega
        have y6 : (9223372036854775807 < t3.size + 1 + t4.size) = False := by simp; omega
        clear z1 z2 z3 z4
        rw [ht5] at c22 o28
        rw [ht6] at c34 o33
        have hasz : Hid (a.size ≤ 65536) := Lib.hid (by omega)
        clear hsh hrow hs ha hb hsz hsa e28 e33 ht1 ht2 ht3 ht4 ht5 ht6
        have ab28 := a28
        have ab33 := a33
        go_enter Tryd.func13, Tryd.ntmps13
        go_wp2_with (first | (go_at_call 16; refine c16.mono ?_; rintro e w1 ⟨rfl, ⟨n, rfl⟩⟩; clear c16; have B1 := hB1 (.cells #[.string a, .string b] 9) n; clear hB1; have g1 := hW.below B1) | (go_at_call 28; refine (x28 _ g1).mono ?_; rintro e w2 ⟨rfl, h2⟩; clear x28; have g2 := g1.below h2) | (go_at_call 28; refine (a28 _ g2).mono ?_; rintro e w3 ⟨rfl, h3⟩; clear a28; have g3 := g2.below h3) | (go_at_call 28; refine (b28 _ g3).mono ?_; rintro e w4 ⟨rfl, h4⟩; clear b28; have g4 := g3.below h4) | (go_at_call 33; refine (x33 _ g4).mono ?_; rintro e w5 ⟨rfl, h5⟩; clear x33; have g5 := g4.below h5) | (go_at_call 33; refine (a33 _ g5).mono ?_; rintro e w6 ⟨rfl, h6⟩; clear a33; have g6 := g5.below h6) | (go_at_call 33; refine (b33 _ g6).mono ?_; rintro e w7 ⟨rfl, h7⟩; clear b33; have g7 := g6.below h7))
        have k2 := B1.trans (h2.mono B1.size)
        have k3 := k2.trans (h3.mono k2.size)
        have k4 := k3.trans (h4.mono k3.size)
        have k5 := k4.trans (h5.mono k4.size)
        have k6 := k5.trans (h6.mono k5.size)
        have k7 := k6.trans (h7.mono k6.size)
        clear B1 h2 h3 h4 h5 h6 h7 k2 k3 k4 k5 k6 g1 g2 g3 g4 g5 g6 y1 y2 y3 y4 y5 y6 hbw
        go_loopg [55] a.size (fun gf s55 wx => ∃ i : Nat, s55 = .int .i64 (i : Int) ∧ wx = w7 ∧ i ≤ a.size ∧ a.size ≤ i + gf ∧ Hid (∀ b ∈ (tl a).take i, b ≠ 47))
        case atStart => exact ⟨0, rfl, rfl, Nat.zero_le _, by omega, Lib.hid (fun b hb => by simp at hb)⟩
        case round =>
          obtain ⟨i, rfl, rfl, hi, hg, hH⟩ := hrel
          have hasz' := hasz.out
          have w1 : wrap64 ((i : Int) + 1) = ((i + 1 : Nat) : Int) := w64n (k := 1) (by omega)
          by_cases hin : i < a.size
          · obtain ⟨g', rfl⟩ : ∃ g', gk = g' + 1 := ⟨gk - 1, by omega⟩
            have c1 : (i : Int) < (a.size : Int) := by omega
            have hgx : a.get! i = a[i]'hin := by
              show a.data[i]! = _
              exact getElem!_pos a.data i hin
            have hgt := get_at hin
            have hil : i < (tl a).length := by rw [tl_size]; exact hin
            have hge : (tl a).getD i 0 = (tl a)[i] := by rw [List.getD, List.getElem?_eq_getElem hil]; rfl
            by_cases h47 : a.get! i = 47
            · have hb : (((a[i]'hin).toNat : Int) == 47) = true := by rw [← hgx, h47]; rfl
              clear hH hgt hgx h47 hge hil
              go_wp2
              go_ret
              exact ⟨rfl, k7⟩
            · have hb : (((a[i]'hin).toNat : Int) == 47) = false := by
                rw [← hgx, beq_eq_false_iff_ne]
                intro e
                apply h47
                have : (a.get! i).toNat = 47 := by omega
                exact UInt8.toNat_inj.1 this
              have hH2 : Hid (∀ b ∈ (tl a).take (i + 1), b ≠ 47) := Lib.hid (fun b hb => by
                rw [List.take_succ_eq_append_getElem hil, List.mem_append, List.mem_singleton] at hb
                rcases hb with hb | rfl
                · exact hH.out b hb
                · rw [← hge, ← hgt]; exact h47)
              clear hH hgt hgx h47 hge hil
              go_wp2
              go_roundg g'
              case measure => omega
              case rel => exact ⟨i + 1, by simp, rfl, by omega, by omega, hH2⟩
          · have c1 : ((i : Int) < (a.size : Int)) = False := by simp; omega
            have hall : ∀ b ∈ tl a, b ≠ 47 := by
              have h1 := hH.out
              rw [List.take_of_length_le (by rw [tl_size]; omega)] at h1
              exact h1
            have e1 := o28.out hall
            have e2 := o33.out hall
            subst e1
            subst e2
            clear hH hall o28 o33 hi hin hg
            go_wp2_with (first | (go_at_call 28; refine (ab28 _ g7).mono ?_; rintro e x2 ⟨rfl, h2⟩; clear ab28; have f2 := g7.below h2; have k8 := k7.trans (h2.mono k7.size)) | (go_at_call 22; refine (c22 _ f2).mono ?_; rintro e x3 ⟨rfl, h3⟩; clear c22; have f3 := f2.below h3; have k9 := k8.trans (h3.mono k8.size)) | (go_at_call 33; refine (ab33 _ f3).mono ?_; rintro e x4 ⟨rfl, h4⟩; clear ab33; have f4 := f3.below h4; have k10 := k9.trans (h4.mono k9.size)) | (go_at_call 34; refine (c34 _ f4).mono ?_; rintro e x5 ⟨rfl, h5⟩; clear c34; have k11 := k10.trans (h5.mono k10.size)))
            go_ret
            exact ⟨rfl, k11⟩
    · have hb1 : ((b.size : Int) > 2147483647) = True := by simp; omega
      go_enter Tryd.func13, Tryd.ntmps13
      go_wp2
      go_ret
      exact ⟨rfl, Below.refl _ w⟩
  · have ha1 : ((a.size : Int) > 2147483647) = True := by simp; omega
    go_enter Tryd.func13, Tryd.ntmps13
    go_wp2
    go_ret
    exact ⟨rfl, Below.refl _ w⟩
end Go.Proofs.YtonmnpmklkbioaaDoor.Given
