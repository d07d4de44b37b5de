/- The contract of Ranges.Insert: a range near enough is inserted into a set of such ranges that its variable holds. -/
import Derived.Test.YtmkhkkfliecfdaaSrch
import Derived.Test.YtmkhkkfliecfdaaWWords
namespace Go.Proofs.Ytmkhkkfliecfdaa.Given
open Go.RowKit Go.Proofs.YtmkhkkfliecfdaaW.PrintWords
set_option linter.unusedVariables false
set_option linter.unusedSimpArgs false

/-- The variable at p, holding x, and a row of ranges beside it. -/
def Sv (B p g cap : Nat) (x : Value) (w0 w : World) (L : List (Int × Int)) : Prop :=
  w.heap[p]? = some (.cells #[x] 51 (0, 0)) ∧ Row w B (.slice (some ⟨g, 0, none⟩) L.length cap) L ∧ Below B w0 w
/-- A range in a box. -/
def Bx (w : World) (b : Nat) (r : Int × Int) : Prop := w.heap[b]? = some (.cells #[.int .i64 r.1, .int .i64 r.2] 48 (0, 0))
variable {B p g cap : Nat} {x : Value} {w0 w w' : World} {L : List (Int × Int)} {b : Nat} {r : Int × Int}
theorem Bx.step (h : Bx w b r) (hb : Below w.heap.size w w') : Bx w' b r := by
  unfold Bx; rw [hb.block b (Array.getElem?_eq_some_iff.1 h).1]; exact h
theorem Bx.lt (h : Bx w b r) : b < w.heap.size := (Array.getElem?_eq_some_iff.1 h).1
theorem Bx.cells (h : Bx w b r) : w.cell? ⟨b, 0, none⟩ = some (.int .i64 r.1) ∧ w.cell? ⟨b, 1, none⟩ = some (.int .i64 r.2) := by
  unfold Bx at h; constructor <;> simp [World.cell?, h]
theorem Sv.ne (h : Sv B p g cap x w0 w L) : p ≠ g := by
  intro e
  exact (Boxed.not_row (t := 51) (e := 48) h.1 (by decide) h.2.1) (by rw [e]; rfl)
theorem St.sv (h : St B p g cap w0 w L) : Sv B p g cap (.slice (some ⟨g, 0, none⟩) L.length cap) w0 w L := h
theorem Sv.drew (h : Sv B p g cap x w0 w L) : Sv B p g cap x w0 w.drew L := ⟨h.1, h.2.1, h.2.2.drew⟩
theorem Sv.over (h : Sv B p g cap x w0 w L) (i : Nat) (M : List (Int × Int)) (hi : i + M.length ≤ L.length) :
    ∃ cur, w.heap[g]? = some (.cells cur 48 (0, 0)) ∧ L.length * 2 ≤ cur.size ∧
      Sv B p g cap x w0 (w.setRow g (cur.toList.take (i * 2) ++ flat M ++ cur.toList.drop (i * 2 + (flat M).length)).toArray) (L.take i ++ M ++ L.drop (i + M.length)) := by
  obtain ⟨cur, h1, h2, h3⟩ := h.2.1.over i M hi
  have e : (L.take i ++ M ++ L.drop (i + M.length)).length = L.length := by simp; omega
  refine ⟨cur, h1, h2, ?_, by rw [e]; exact h3, below_setRow h.2.2 (Row.lt h.2.1).1 _⟩
  rw [setRow_other _ _ _ _ h.ne]
  exact h.1
theorem setCell_comm (w : World) {b o b' o' : Nat} (h : b ≠ b' ∨ o ≠ o') (u v : Value) : (w.setCell ⟨b, o, none⟩ u).setCell ⟨b', o', none⟩ v = (w.setCell ⟨b', o', none⟩ v).setCell ⟨b, o, none⟩ u := by
  simp only [World.setCell, World.mk.injEq, and_true]
  apply Array.ext_getElem?
  intro k
  simp only [Array.getElem?_modify]
  generalize w.heap[k]? = z
  by_cases h1 : b = k <;> by_cases h2 : b' = k <;> simp only [h1, h2, if_true, if_false]
  have ho : o ≠ o' := h.resolve_left (fun e => e (h1.trans h2.symm))
  cases z with
  | none => rfl
  | some ob =>
    cases ob <;> simp only [Option.map_some]
    simp only [Option.isSome_none, Bool.false_eq_true, if_false]
    rw [Array.setIfInBounds_comm _ _ ho]
theorem Sv.set (h : Sv B p g cap x w0 w L) (i : Nat) (r : Int × Int) : Sv B p g cap x w0 ((w.setCell ⟨g, i * 2, none⟩ (.int .i64 r.1)).setCell ⟨g, i * 2 + 1, none⟩ (.int .i64 r.2)) (L.set i r) := by
  rw [setCell_comm _ (.inr (by omega))]
  refine ⟨?_, h.2.1.set i r, ((h.2.2.setCell (Row.lt h.2.1).1 _).setCell (Row.lt h.2.1).1 _)⟩
  rw [Below.heap_setCell _ _ _ _ (by simpa using h.ne), Below.heap_setCell _ _ _ _ (by simpa using h.ne)]
  exact h.1
theorem Sv.put (h : Sv B p g cap x w0 w L) (hB : B ≤ p) : St B p g cap w0 (w.setCell ⟨p, 0, none⟩ (.slice (some ⟨g, 0, none⟩) L.length cap)) L := by
  refine ⟨?_, h.2.1.far p _ (by simp [Value.ownBlock]; exact fun e => h.ne e.symm), h.2.2.setCell hB _⟩
  exact Boxed.set (t := 51) _ h.1
/-- A set in its variable. -/
def Var (B p : Nat) (w0 w : World) (L : List (Int × Int)) : Prop := ∃ v, w.heap[p]? = some (.cells #[v] 51 (0, 0)) ∧ Row w B v L ∧ Below B w0 w
theorem St.var (h : St B p g cap w0 w L) : Var B p w0 w L := ⟨_, h.1, h.2.1, h.2.2⟩
theorem Var.st (h : Var B p w0 w L) (hn : 0 < L.length) : ∃ g cap, St B p g cap w0 w L := by
  obtain ⟨v, h1, h2, h3⟩ := h
  obtain ⟨g, cap, rfl⟩ := h2.form hn
  exact ⟨g, cap, h1, h2, h3⟩
theorem Var.step (h : Var B p w0 w L) (hB : B ≤ p) (hb : Below w.heap.size w w') : Var B p w0 w' L := by
  obtain ⟨v, h1, h2, h3⟩ := h
  have hlt := (Array.getElem?_eq_some_iff.1 h1).1
  exact ⟨v, by rw [hb.block p hlt]; exact h1, h2.below hb, h3.trans (hb.mono (by omega))⟩
theorem addr0 (g j : Nat) : (⟨g, 0, none⟩ : Addr).add j = ⟨g, j, none⟩ := by unfold Addr.add; split <;> simp_all
theorem St.row_cells (h : St B p g cap w0 w L) : ∀ i, i < L.length → ∃ a, (some (⟨g, 0, none⟩ : Addr)) = some a ∧ w.cell? (a.add (i * 2)) = some (.int .i64 (at_ L i).1) := fun i hi => ⟨_, rfl, by rw [addr0]; exact (h.cells hi).1⟩
/-- merge of a range in a box into one of the row. -/
theorem merge_box (k : Nat) (h : St B p g cap w0 w L) (hb : Bx w b r) (hne : b ≠ g) (hp : b ≠ p) (hi : k < L.length) (hr : Good r) (hG : ∀ r ∈ L, Good r) :
    Calls Try.prog 52 #[.pointer (some ⟨b, 0, none⟩), .pointer (some ⟨g, k * 2, none⟩)] w fun e w' =>
      e = .returned (.bool (touches r (at_ L k))) ∧ St B p g cap w0 w' (if touches r (at_ L k) then L.set k (merged r (at_ L k)) else L) ∧ Bx w' b r := by
  obtain ⟨c1, c2⟩ := hb.cells
  obtain ⟨d1, d2, d3, d4⟩ := h.cells hi
  have g2 : Good (at_ L k) := by rw [at_eq hi]; exact hG _ (List.getElem_mem _)
  have hlt := (Row.lt h.2.1).2
  have hpg : p ≠ g := (St.sv h).ne
  cases ht : touches r (at_ L k) with
  | false =>
    refine (merge_false b 0 g (k * 2) r.1 r.2 (at_ L k).1 (at_ L k).2 w hr.near g2.near c1 c2 d1 d2 hb.lt hlt (by simpa [touches] using ht)).mono ?_
    rintro e w' ⟨rfl, hb'⟩
    exact ⟨rfl, by simpa using h.step hb', hb.step hb'⟩
  | true =>
    refine (merge_true b 0 g (k * 2) r.1 r.2 (at_ L k).1 (at_ L k).2 w hr.near g2.near c1 c2 d1 d2 hb.lt hlt d3 d4 (by simpa [touches] using ht) (.inl hne)).mono ?_
    rintro e w' ⟨rfl, w1, hb', rfl⟩
    refine ⟨rfl, by rw [if_pos rfl]; exact (h.step hb').set hpg k (merged r (at_ L k)), ?_⟩
    unfold Bx
    rw [Below.heap_setCell _ _ _ _ (by simpa using hne), Below.heap_setCell _ _ _ _ (by simpa using hne)]
    exact hb.step hb'

/-- a range that is empty -/
theorem ins_empty (h : Var B p w0 w L) (hB : B ≤ p) (hr : r.2 ≤ 0) :
    Calls Try.prog 50 #[.pointer (some ⟨p, 0, none⟩), .agg #[.int .i64 r.1, .int .i64 r.2]] w fun e w' => e = .returned (.tuple #[]) ∧ Var B p w0 w' L := by
  have HV := Lib.hid h
  obtain ⟨r1, r2⟩ := r
  simp only at hr ⊢
  have hd : decide (r2 ≤ 0) = true := decide_eq_true hr
  clear h
  go_enter Try.func50, Try.ntmps50
  go_wp2_with (go_at_call 43; refine (empty_any r1 r2 _).mono ?_; rintro e w1 ⟨rfl, hb1⟩; have HB := Lib.hid hb1; clear hb1)
  refine bodyPost_ret (results_none rfl _ _ _) rfl ?_
  exact ⟨rfl, (HV.out.step hB ((Below.refl _ _).alloc (Nat.le_refl _) _)).step hB HB.out⟩
theorem var_grown {v : Value} {n : Nat} {xs : List Value} (h1 : w.heap[p]? = some (.cells #[x] 51 (0, 0))) (hrow : w.ownsRow B 48 2 v n xs) (hg : w.grownBy w' v.ownBlock) : w'.heap[p]? = some (.cells #[x] 51 (0, 0)) :=
  Boxed.kept (t := 51) h1 hg (Boxed.not_row (t := 51) (e := 48) h1 (by decide) hrow)
theorem var_cell (h : w.heap[p]? = some (.cells #[x] 51 (0, 0))) : w.cell? ⟨p, 0, none⟩ = some x ∧ w.frozen? ⟨p, 0, none⟩ = false := by
  constructor
  · simp [World.cell?, h]
  · simp [World.frozen?, h]
/-- the first range -/
theorem ins_first (h : Var B p w0 w []) (hB : B ≤ p) (hr : 1 ≤ r.2) :
    Calls Try.prog 50 #[.pointer (some ⟨p, 0, none⟩), .agg #[.int .i64 r.1, .int .i64 r.2]] w fun e w' => e = .returned (.tuple #[]) ∧ Var B p w0 w' [r] := by
  obtain ⟨v, h1, h2, h3⟩ := h
  obtain ⟨r1, r2⟩ := r
  simp only at hr ⊢
  have hd : decide (r2 ≤ 0) = false := decide_eq_false (by omega)
  have hplt := (Array.getElem?_eq_some_iff.1 h1).1
  have hv : ∃ a c, v = .slice a 0 c := by
    rcases h2.2 with ⟨h', _⟩ | ⟨g', cap', cur, h', _⟩
    · exact ⟨_, _, h'⟩
    · exact ⟨_, _, h'⟩
  obtain ⟨a, c, rfl⟩ := hv
  have hbx : Bx (w.alloc (.cells #[.int .i64 r1, .int .i64 r2] 48)) w.heap.size (r1, r2) := by unfold Bx; simpa using heap_alloc_new w (.cells #[.int .i64 r1, .int .i64 r2] 48)
  have HBX := Lib.hid hbx
  have HW := Lib.hid h1
  have HR := Lib.hid h2
  have HB3 := Lib.hid h3
  clear h1 h2 h3 hbx
  go_enter Try.func50, Try.ntmps50
  go_wp2_with (first | (go_at_call 43; refine (empty_any r1 r2 _).mono ?_; rintro e w1 ⟨rfl, hb1⟩; obtain ⟨y0, y1⟩ := (HBX.out.step hb1).cells; have hp1 := ((Boxed.alloc (t := 51) HW.out _).kept (row := none) ⟨hb1.os, hb1.tape, hb1.output, hb1.size, fun k hk _ => hb1.block k hk⟩ (by simp)); obtain ⟨hc1, hf1⟩ := var_cell hp1; have HP1 := Lib.hid hp1; have hbb := ((Below.refl w.heap.size w).alloc (Nat.le_refl _) (.cells #[.int .i64 r1, .int .i64 r2] 48)).trans (hb1.mono (by simp)); have HR1 := Lib.hid (HR.out.below hbb); have HB1 := Lib.hid (HB3.out.trans (hbb.mono (by omega))); have hz1 := hbb.size; clear hb1 hp1 hbb) | (at_builtin; refine print_append_cells (w0 := w0) (W := w1) B rfl (.tmp 14) (.tmp 16) 51 48 (.agg #[.int .i64 0, .int .i64 0]) 2 16 rfl Try.underlying51 (by kernel_rfl) rfl (by decide) (by decide) _ 0 (flat []) [.int .i64 r1, .int .i64 r2] rfl rfl rfl (flat_one [(r1, r2)]) HR1.out HB1.out (by omega) (by decide) ?_; intro v1 w2 hown hbel hgr hat; have hp2 := var_grown HP1.out HR1.out hgr; obtain ⟨g1, cap1, rfl⟩ := ownsRow_succ hown; obtain ⟨hc2, hf2⟩ := var_cell hp2; have HS := Lib.hid (show Sv B p g1 cap1 (.slice a 0 c) w0 w2 [(r1, r2)] from ⟨hp2, hown, hbel⟩); clear hp2 hown hbel hgr hat))
  all_goals
    refine bodyPost_ret (results_none rfl _ _ _) rfl ?_
    exact ⟨rfl, (HS.out.put hB).var⟩

theorem srch_le (L : List (Int × Int)) (p : Int) : srch L p ≤ L.length := by
  obtain ⟨A, B, rfl, h, -⟩ := srch_split L p
  rw [h]; simp
theorem set_good {k : Nat} (hr : Good r) (hk : k < L.length) (hG : ∀ r ∈ L, Good r) : ∀ x ∈ L.set k (merged r (at_ L k)), Good x := by
  intro x hx
  rcases List.mem_or_eq_of_mem_set hx with h' | rfl
  · exact hG x h'
  · rw [at_eq hk]; exact hr.merged (hG _ (List.getElem_mem _))
theorem mid_good {k : Nat} (hr : Good r) (hG : ∀ r ∈ L, Good r) : ∀ x ∈ L.take k ++ r :: L.drop k, Good x := by
  intro x hx
  rcases List.mem_append.1 hx with h | h
  · exact hG x (List.mem_of_mem_take h)
  · rcases List.mem_cons.1 h with rfl | h
    · exact hr
    · exact hG x (List.mem_of_mem_drop h)
theorem bx_new (w : World) (r1 r2 : Int) : Bx (w.alloc (.cells #[.int .i64 r1, .int .i64 r2] 48)) w.heap.size (r1, r2) := by
  unfold Bx; simpa using heap_alloc_new w (.cells #[.int .i64 r1, .int .i64 r2] 48)
set_option maxRecDepth 100000 in
set_option maxHeartbeats 1000000 in
theorem ins_merge (r1 r2 : Int) (h : St B p g cap w0 w L) (hB : B ≤ p) (hlen : L.length ≤ 100000) (hr : Good (r1, r2)) (hG : ∀ r ∈ L, Good r) (hs : ∀ i j, i ≤ j → j < L.length → (at_ L i).1 ≤ (at_ L j).1)
    (hk : srch L r1 < L.length) (ht : touches (r1, r2) (at_ L (srch L r1)) = true) :
    Calls Try.prog 50 #[.pointer (some ⟨p, 0, none⟩), .agg #[.int .i64 r1, .int .i64 r2]] w fun e w' => e = .returned (.tuple #[]) ∧ Var B p w0 w' (coalP (L.set (srch L r1) (merged (r1, r2) (at_ L (srch L r1)))) (srch L r1)) := by
  have hd : decide (r2 ≤ 0) = false := decide_eq_false (by have := hr.2.2.1; simp only at this; omega)
  have hl0 : ((L.length : Int) == 0) = false := by simp; intro e; simp [e] at hk
  obtain ⟨hc0, hf0⟩ := var_cell h.1
  have hplt := (Array.getElem?_eq_some_iff.1 h.1).1
  have hglt := (Row.lt h.2.1).2
  have hsr : ∀ wz, St B p g cap w0 wz L → Calls Try.prog 51 #[.slice (some ⟨g, 0, none⟩) L.length cap, .agg #[.int .i64 r1, .int .i64 r2]] wz fun e w' => e = .returned (.int .i64 (srch L r1 : Nat)) ∧ Below wz.heap.size wz w' :=
    fun wz hz => search_any (some ⟨g, 0, none⟩) cap L r1 r2 wz (by omega) hz.row_cells hs
  generalize srch L r1 = k at *
  obtain ⟨ki, hki⟩ : ∃ ki : Int, ki = (k : Nat) := ⟨_, rfl⟩
  have k0 : 0 ≤ ki := by omega
  have k1 : ki < L.length := by omega
  have tk : ki.toNat = k := by omega
  have he : (ki == (L.length : Int)) = false := by simp; omega
  rw [← hki] at hsr
  have HSR := Lib.hid hsr
  have HK := Lib.hid hki
  have HT := Lib.hid ht
  have HST := Lib.hid h
  have HR := Lib.hid hr
  have HG := Lib.hid hG
  have HKL := Lib.hid hk
  clear hsr hki ht h hr hG hs hk
  go_enter Try.func50, Try.ntmps50
  go_wp2_with (first | (go_at_call 43; refine (empty_any r1 r2 _).mono ?_; rintro e w1 ⟨rfl, hb1⟩; have HBX1 := Lib.hid ((bx_new w r1 r2).step hb1); obtain ⟨y0, y1⟩ := HBX1.out.cells; have HS1 := Lib.hid ((HST.out.step ((Below.refl _ _).alloc (Nat.le_refl _) _)).step hb1); obtain ⟨hc1, hf1⟩ := var_cell HS1.out.1; clear hb1) | (go_at_call 51; refine (HSR.out _ HS1.out).mono ?_; rintro e w2 ⟨rfl, hb2⟩; have HBX2 := Lib.hid (HBX1.out.step hb2); obtain ⟨z0, z1⟩ := HBX2.out.cells; have HS2 := Lib.hid (HS1.out.step hb2); obtain ⟨hc2, hf2⟩ := var_cell HS2.out.1; clear hb2) | (go_at_call 52; refine (merge_box k HS2.out HBX2.out (by omega) (by omega) HKL.out HR.out HG.out).mono ?_; rw [HT.out]; rintro e w3 ⟨rfl, hs3, -⟩; rw [if_pos rfl] at hs3; have HS3 := Lib.hid hs3; clear hs3) | (go_at_call 53; refine (coal_any p g cap B ki k HK.out _ w0 _ HS3.out (by rw [List.length_set]; exact HKL.out) (set_good HR.out HKL.out HG.out) hB (St.sv HS3.out).ne (by rw [List.length_set]; exact hlen)).mono ?_; rintro e w4 ⟨rfl, hs4⟩; have HS4 := Lib.hid hs4; clear hs4))
  go_end0
  exact ⟨rfl, HS4.out.var⟩

set_option maxRecDepth 100000 in
set_option maxHeartbeats 1000000 in
theorem ins_front (r1 r2 : Int) (h : St B p g cap w0 w L) (hB : B ≤ p) (hL0 : 0 < L.length) (hlen : L.length ≤ 99999) (hr : Good (r1, r2)) (hG : ∀ r ∈ L, Good r) (hs : ∀ i j, i ≤ j → j < L.length → (at_ L i).1 ≤ (at_ L j).1)
    (hk : srch L r1 = L.length ∨ touches (r1, r2) (at_ L (srch L r1)) = false) :
    Calls Try.prog 50 #[.pointer (some ⟨p, 0, none⟩), .agg #[.int .i64 r1, .int .i64 r2]] w fun e w' => e = .returned (.tuple #[]) ∧ Var B p w0 w' (coalP (L.take (srch L r1) ++ (r1, r2) :: L.drop (srch L r1)) (srch L r1)) := by
  have hd : decide (r2 ≤ 0) = false := decide_eq_false (by have := hr.2.2.1; simp only at this; omega)
  have hl0 : ((L.length : Int) == 0) = false := by simp; intro e; simp [e] at hL0
  obtain ⟨hc0, hf0⟩ := var_cell h.1
  have hplt := (Array.getElem?_eq_some_iff.1 h.1).1
  have hglt := (Row.lt h.2.1).2
  have hBg := (Row.lt h.2.1).1
  have hsr : ∀ wz, St B p g cap w0 wz L → Calls Try.prog 51 #[.slice (some ⟨g, 0, none⟩) L.length cap, .agg #[.int .i64 r1, .int .i64 r2]] wz fun e w' => e = .returned (.int .i64 (srch L r1 : Nat)) ∧ Below wz.heap.size wz w' :=
    fun wz hz => search_any (some ⟨g, 0, none⟩) cap L r1 r2 wz (by omega) hz.row_cells hs
  have hkl := srch_le L r1
  generalize srch L r1 = k at *
  obtain ⟨ki, hki⟩ : ∃ ki : Int, ki = (k : Nat) := ⟨_, rfl⟩
  obtain ⟨kj, hkj⟩ : ∃ kj : Int, kj = ki + 1 := ⟨_, rfl⟩
  obtain ⟨nn, hnn⟩ : ∃ nn : Nat, nn = L.length + 1 := ⟨_, rfl⟩
  obtain ⟨LL, hLL⟩ : ∃ LL, LL = L ++ [((0 : Int), (0 : Int))] := ⟨_, rfl⟩
  have hLLn : LL.length = nn := by rw [hLL, hnn]; simp
  have k0 : 0 ≤ ki := by omega
  have k1 : ki < (nn : Int) := by omega
  have k2 : ki ≤ (nn : Int) := by omega
  have j0 : 0 ≤ kj := by omega
  have j1 : kj ≤ (nn : Int) := by omega
  have tk : ki.toNat = k := by omega
  have tj : kj.toNat = k + 1 := by omega
  have hwj : IntKind.i64.wrap (ki + 1) = kj := by rw [i64_id (by omega), hkj]
  rw [← hki] at hsr
  have HSR := Lib.hid hsr
  have HK := Lib.hid hki
  have HKJ := Lib.hid hkj
  have HT := Lib.hid hk
  have HST := Lib.hid h
  have HR := Lib.hid hr
  have HG := Lib.hid hG
  have HKL := Lib.hid hkl
  have HLL := Lib.hid hLL
  have HLN := Lib.hid hLLn
  have HNN := Lib.hid hnn
  clear hsr hki hkj hk h hr hG hs hkl hLL hLLn hnn
  go_enter Try.func50, Try.ntmps50
  go_upto_region 7 with (first | (go_at_call 43; refine (empty_any r1 r2 _).mono ?_; rintro e w1 ⟨rfl, hb1⟩; have HBX1 := Lib.hid ((bx_new w r1 r2).step hb1); obtain ⟨y0, y1⟩ := HBX1.out.cells; have HS1 := Lib.hid ((HST.out.step ((Below.refl _ _).alloc (Nat.le_refl _) _)).step hb1); obtain ⟨hc1, hf1⟩ := var_cell HS1.out.1; have hz1 := (Array.getElem?_eq_some_iff.1 HBX1.out).1; clear hb1) | (go_at_call 51; refine (HSR.out _ HS1.out).mono ?_; rintro e w2 ⟨rfl, hb2⟩; have HBX2 := Lib.hid (HBX1.out.step hb2); obtain ⟨z0, z1⟩ := HBX2.out.cells; have HS2 := Lib.hid (HS1.out.step hb2); obtain ⟨hc2, hf2⟩ := var_cell HS2.out.1; have hz2 := (Array.getElem?_eq_some_iff.1 HBX2.out).1; clear hb2))


  go_cut [34] (fun v34 wc => v34 = .bool true ∧ Hid (St B p g cap w0 wc L) ∧ Hid (Bx wc w.heap.size (r1, r2)))
  case first =>
    by_cases e : k = L.length
    · have he : (ki == (L.length : Int)) = true := by rw [HK.out, e]; simp
      have HE := Lib.hid e
      clear e
      go_wp2_with fail
      go_simp
      go_meet
      exact ⟨rfl, HS2, HBX2⟩
    · have he : (ki == (L.length : Int)) = false := by rw [HK.out]; simp; omega
      have hkl : k < L.length := by have := HKL.out; omega
      have k3 : ki < (L.length : Int) := by rw [HK.out]; omega
      have HKL2 := Lib.hid hkl
      have HTF := Lib.hid (HT.out.resolve_left e)
      clear e hkl
      go_wp2_with (go_at_call 52; refine (merge_box k HS2.out HBX2.out (by omega) (by omega) HKL2.out HR.out HG.out).mono ?_; rw [HTF.out]; rintro e w3 ⟨rfl, hs3, hbx3⟩; rw [if_neg (by decide)] at hs3; have HS3 := Lib.hid hs3; have HBX3 := Lib.hid hbx3; clear hs3 hbx3)
      go_simp
      go_meet
      exact ⟨rfl, HS3, HBX3⟩
  case rest =>
    obtain ⟨rfl, HS3, HBX3⟩ := hcut
    obtain ⟨w3, rfl⟩ : ∃ w3 : World, w3 = wc := ⟨_, rfl⟩
    obtain ⟨z0, z1⟩ := HBX3.out.cells
    obtain ⟨hc3, hf3⟩ := var_cell HS3.out.1
    have hz3 := (Array.getElem?_eq_some_iff.1 HBX3.out).1
    clear hc1 hf1 hc2 hf2 y0 y1
    have hBs : B ≤ w3.heap.size := by omega
    have hby : (L.length + 1) * 16 ≤ 140737488355328 := by omega
    have hng : some w.heap.size ≠ (Value.slice (some ⟨g, 0, none⟩) L.length cap).ownBlock := by simp [Value.ownBlock]; omega
    go_wp2_with (at_builtin; refine print_append_cells (w0 := w0) (W := w3) B rfl (.tmp 35) (.tmp 37) 51 48 (.agg #[.int .i64 0, .int .i64 0]) 2 16 rfl Try.underlying51 (by kernel_rfl) rfl (by decide) (by decide) (.slice (some ⟨g, 0, none⟩) L.length cap) L.length (flat L) [.int .i64 0, .int .i64 0] rfl rfl rfl (flat_one [(0, 0)]) HS3.out.2.1 HS3.out.2.2 hBs hby ?_; intro v1 w4 hown hbel hgr hat; have hp4 := var_grown HS3.out.1 HS3.out.2.1 hgr; obtain ⟨g1, cap1, hv1⟩ := ownsRow_succ hown; have hbx4 : Bx w4 w.heap.size (r1, r2) := (by unfold Bx; rw [hgr.block _ hz3 hng]; exact HBX3.out); rw [← HNN.out] at hv1; have hown' : Row w4 B v1 LL := (by unfold Row; rw [HLN.out, HNN.out, HLL.out, flat_append]; exact hown); have hne1 : w.heap.size ≠ g1 := (by subst hv1; simp only [Value.ownBlock, Option.some.injEq] at hat; rcases hat with rfl | ⟨b, rfl, hb⟩ <;> omega); rw [hv1] at hown' ⊢; have HS4 := Lib.hid (show Sv B p g1 cap1 (.slice (some ⟨g, 0, none⟩) L.length cap) w0 w4 LL from ⟨hp4, by rw [HLN.out]; exact hown', hbel⟩); have HBX4 := Lib.hid hbx4; clear hp4 hown hown' hbel hgr hat hv1 hbx4)
    have hroom : nn ≤ cap1 := by have := Row.room HS4.out.2.1; rw [HLN.out] at this; exact this
    have hck : ¬ cap1 = k := by have := HNN.out; have := HKL.out; omega
    go_still_tail 7, (by kernel_rfl)
    change wpList _ _ _ _ _ w4.drew
    have HS5 := Lib.hid HS4.out.drew
    have HBX5 : Hid (Bx w4.drew w.heap.size (r1, r2)) := Lib.hid HBX4.out
    clear HS4 HBX4
    generalize w4.drew = w5 at *
    try simp only [if_neg hck]
    have hdl : (L.drop k).length = L.length - k := List.length_drop
    obtain ⟨cur, hg5, hsz, hov⟩ := HS5.out.over (k + 1) (L.drop k) (by rw [hdl, HLN.out, HNN.out]; have := HKL.out; omega)
    have hfl : (flat (L.drop k)).length = (L.length - k) * 2 := by rw [flat_length, hdl]
    obtain ⟨off, hoff⟩ : ∃ off, (if cap1 = k + 1 then (some ⟨g1, 0, none⟩ : Option Addr) else some ⟨g1, (k + 1) * 2, none⟩) = some ⟨g1, off, none⟩ ∧ off ≤ (k + 1) * 2 ∧ (k < L.length → off = (k + 1) * 2) := by
      by_cases e : cap1 = k + 1
      · rw [if_pos e]; exact ⟨0, rfl, by omega, fun h => by have := HNN.out; omega⟩
      · rw [if_neg e]; exact ⟨_, rfl, Nat.le_refl _, fun _ => rfl⟩
    obtain ⟨ho1, ho2, ho3⟩ := hoff
    have hres : w5.setRow g1 (cur.toList.take off ++ flat (L.drop k) ++ cur.toList.drop (off + (flat (L.drop k)).length)).toArray = w5.setRow g1 (cur.toList.take ((k + 1) * 2) ++ flat (L.drop k) ++ cur.toList.drop ((k + 1) * 2 + (flat (L.drop k)).length)).toArray := by
      by_cases e : k < L.length
      · rw [ho3 e]
      · have e0 : L.drop k = [] := List.drop_eq_nil_of_le (by omega)
        rw [e0]
        simp [flat]
    have hkL := HKL.out
    have hnL := HNN.out
    refine wpList_copy_two rfl (.tmp 42) (.tmp 45) 51 51 rfl 48 Try.underlying51 (by kernel_rfl) g1 off (nn - (k + 1)) (cap1 - (k + 1)) ⟨g1, k * 2, none⟩ (nn - k) (cap1 - k) (by rw [← ho1]; rfl) rfl cur 48 hg5 (flat (L.drop k)) ?_ ?_ ?_ (flat_one _) ?_
    · rw [hfl]; congr 1; exact (show L.length - k = nn - (k + 1) by omega).trans (Nat.min_eq_right (by omega)).symm
    · intro j v hj
      have hjl := (List.getElem?_eq_some_iff.1 hj).1
      rw [hfl] at hjl
      rw [flat_drop, List.getElem?_drop] at hj
      have hc := World.ownsRow.cellAt HS5.out.2.1 (k * 2 + j) (by rw [HLN.out]; omega)
      have hfa : (flat LL)[k * 2 + j]? = (flat L)[k * 2 + j]? := by rw [HLL.out, flat_append, List.getElem?_append_left (by rw [flat_length]; omega)]
      rw [show (⟨g1, k * 2, none⟩ : Addr).add j = ⟨g1, k * 2 + j, none⟩ by unfold Addr.add; split <;> simp_all, hc, hfa]
      exact hj
    · rw [hfl]; rw [HLN.out] at hsz; omega
    rw [hres]
    have HOV := Lib.hid hov
    have hbx6 : Hid (Bx (w5.setRow g1 (cur.toList.take ((k + 1) * 2) ++ flat (L.drop k) ++ cur.toList.drop ((k + 1) * 2 + (flat (L.drop k)).length)).toArray) w.heap.size (r1, r2)) := Lib.hid (by unfold Bx; rw [setRow_other _ _ _ _ hne1]; exact HBX5.out)
    clear hov hg5 hres
    generalize w5.setRow g1 (cur.toList.take ((k + 1) * 2) ++ flat (L.drop k) ++ cur.toList.drop ((k + 1) * 2 + (flat (L.drop k)).length)).toArray = w6 at *
    obtain ⟨L3, hL3⟩ : ∃ L3, L3 = LL.take (k + 1) ++ L.drop k ++ LL.drop (k + 1 + (L.drop k).length) := ⟨_, rfl⟩
    rw [← hL3] at HOV
    have hl3 : L3.length = nn := by rw [hL3]; simp [HLN.out]; omega
    have hset : L3.set k (r1, r2) = L.take k ++ (r1, r2) :: L.drop k := by
      have e1 : LL.drop (k + 1 + (L.drop k).length) = [] := List.drop_eq_nil_of_le (by rw [HLN.out, hdl]; omega)
      have e2 : LL.take (k + 1) = L.take k ++ [at_ LL k] := by
        rw [List.take_succ_eq_append_getElem (by rw [HLN.out]; omega), at_eq (by rw [HLN.out]; omega)]
        congr 1
        rw [HLL.out, List.take_append_of_le_length hkL]
      rw [hL3, e1, e2, List.append_nil, List.append_assoc]
      have e3 : (L.take k).length = k := by simp; omega
      rw [List.set_append, if_neg (by omega), e3, Nat.sub_self]
      rfl
    have HSET := Lib.hid hset
    have HL3 := Lib.hid hl3
    obtain ⟨x0, x1⟩ := hbx6.out.cells
    obtain ⟨d1, d2, d3, d4⟩ : w6.cell? ⟨g1, k * 2, none⟩ = some (.int .i64 (at_ L3 k).1) ∧ w6.cell? ⟨g1, k * 2 + 1, none⟩ = some (.int .i64 (at_ L3 k).2) ∧ w6.frozen? ⟨g1, k * 2, none⟩ = false ∧ w6.frozen? ⟨g1, k * 2 + 1, none⟩ = false := by
      have hk3 : k < L3.length := by omega
      rw [at_eq hk3]
      exact ⟨HOV.out.2.1.fst hk3, HOV.out.2.1.snd hk3, HOV.out.2.1.frz _, HOV.out.2.1.frz _⟩
    obtain ⟨hc6, hf6⟩ := var_cell HOV.out.1
    have hpg : p ≠ g1 := HOV.out.ne
    have HPUT := Lib.hid ((HOV.out.set k (r1, r2)).put hB)
    rw [List.length_set, hl3, hset] at HPUT
    clear hL3 hl3 hset hdl hfl hsz ho1 ho2 ho3 hc3 hf3 z0 z1 hkL hnL
    have hln4 : k < (L.take k ++ (r1, r2) :: L.drop k).length ∧ (L.take k ++ (r1, r2) :: L.drop k).length ≤ 100000 ∧ (L.take k ++ (r1, r2) :: L.drop k).length = nn := by have := HKL.out; have := HNN.out; simp; omega
    have HLN4 := Lib.hid hln4
    rw [← hln4.2.2] at HPUT
    clear hln4
    go_wp2_with (go_at_call 53; rw [← HLN4.out.2.2]; refine (coal_any p g1 cap1 B ki k HK.out _ w0 _ HPUT.out HLN4.out.1 (mid_good HR.out HG.out) hB hpg HLN4.out.2.1).mono ?_; rintro e w7 ⟨rfl, hs7⟩; have HS7 := Lib.hid hs7; clear hs7)
    all_goals
      go_end0
      exact ⟨rfl, HS7.out.var⟩

/-- Insert, as it computes. -/
theorem ins_any (h : Var B p w0 w L) (hB : B ≤ p) (hlen : L.length ≤ 99999) (hr : r.2 ≤ 0 ∨ Good r) (hG : ∀ r ∈ L, Good r) (hs : ∀ i j, i ≤ j → j < L.length → (at_ L i).1 ≤ (at_ L j).1) :
    Calls Try.prog 50 #[.pointer (some ⟨p, 0, none⟩), .agg #[.int .i64 r.1, .int .i64 r.2]] w fun e w' => e = .returned (.tuple #[]) ∧ Var B p w0 w' (insP L r) := by
  unfold insP
  by_cases h0 : r.2 ≤ 0
  · rw [if_pos h0]; exact ins_empty h hB h0
  · rw [if_neg h0]
    have hg : Good r := hr.resolve_left h0
    by_cases hn : L.length = 0
    · rw [if_pos hn]
      obtain rfl := List.length_eq_zero_iff.1 hn
      exact ins_first h hB (by omega)
    · rw [if_neg hn]
      obtain ⟨g, cap, hst⟩ := h.st (by omega)
      obtain ⟨r1, r2⟩ := r
      by_cases hc : srch L r1 = L.length ∨ touches (r1, r2) (at_ L (srch L r1)) = false
      · rw [if_pos hc]; exact ins_front r1 r2 hst hB (by omega) hlen hg hG hs hc
      · rw [if_neg hc]
        have hc1 : ¬ srch L r1 = L.length := fun e => hc (.inl e)
        have hc2 : touches (r1, r2) (at_ L (srch L r1)) = true := by
          cases h : touches (r1, r2) (at_ L (srch L r1)) with
          | true => rfl
          | false => exact (hc (.inr h)).elim
        exact ins_merge r1 r2 hst hB (by omega) hg hG hs (by have := srch_le L r1; omega) hc2
end Go.Proofs.Ytmkhkkfliecfdaa.Given
