/- 4 texts of this claim, one behind the other. -/
import Derived.Test.YtonmnpmklkbioaaDoorGc
import Derived.Shelf.Bytes.WriteAny
import Derived.Lib.BufferOld
/- Buffer.Grow of a fresh buffer; appendQuotedBytes of one byte. -/
namespace Go.Proofs.YtonmnpmklkbioaaDoor.Sy
open Go.RowKit Go.Proofs.YtonmnpmklkbioaaDoorW.PrintWords
set_option linter.unusedVariables false
set_option linter.unusedSimpArgs false
theorem own78 (B b n : Nat) (bs : List Value) (w : World) (h : Lib.IsBuffer 71 5 B b bs w) (hnr : Lib.NoRoom b n w) (hBw : B ≤ w.heap.size) (h1 : ∀ v ∈ bs, v.oneCell' = true) (hlim : bs.length + n ≤ 140737488355328) :
    Calls Tryd.prog 78 #[.pointer (some ⟨b, 0, none⟩), .int .i64 n] w fun e w' => e = .returned (.int .i64 bs.length) ∧ ∃ xs, xs.length = n ∧ Lib.IsBuffer 71 5 B b (bs ++ xs) w' ∧ Below B w w' ∧ Lib.OthersKept 5 (some b) w w' ∧ w.grownBy w' (some b) :=
  Any.Buffer_grow_own Laid.L_n252 B b n bs w h hnr hBw h1 hlim
theorem fresh78 (B b n : Nat) (w : World) (hB : B ≤ b) (hBw : B ≤ w.heap.size) (hb : w.heap[b]? = some (.cells #[.slice none 0 0, .int .i64 0, .int .i8 0] 71 (0, 0))) (hn0 : 0 < n) (hn : n ≤ 140737488355328) :
    Calls Tryd.prog 78 #[.pointer (some ⟨b, 0, none⟩), .int .i64 n] w fun e w' => e = .returned (.int .i64 0) ∧ ∃ g cap cur lr, w'.cell? ⟨b, 0, none⟩ = some (.slice (some ⟨g, 0, none⟩) n cap) ∧ w'.frozen? ⟨b, 0, none⟩ = false ∧
      w'.heap[b]? = some (.cells #[.slice (some ⟨g, 0, none⟩) n cap, .int .i64 0, .int .i8 lr] 71 (0, 0)) ∧ B ≤ g ∧ w'.heap[g]? = some (.cells cur 5 (0, 0)) ∧ cap ≤ maxLen ∧ cur.size = cap ∧ g ≠ b ∧ Below B w w' ∧ n ≤ cap := by
  have hI : Lib.IsBuffer 71 5 B b [] w := ⟨hB, .slice none 0 0, 0, hb, World.ownsRow_nil _ _ _ _, by simp [Value.ownBlock]⟩
  have hc : w.cell? ⟨b, 0, none⟩ = some (.slice none 0 0) := by rw [Lib.cell_of_heap hb]; rfl
  have hnr : Lib.NoRoom b n w := ⟨none, 0, 0, hc, by omega⟩
  refine (own78 B b n [] w hI hnr hBw (by simp) (by simpa using hn)).mono ?_
  rintro e W1 ⟨rfl, xs, hx, hI1, b1, k1, g1⟩
  obtain ⟨_, lr, hcs⟩ := hI1.cases
  rcases hcs with ⟨h0, _⟩ | ⟨g, cap, cur, hbk, hBg, hg, hnc, hcm, hcs, htk, hgb⟩
  · simp at h0
    subst h0
    simp at hx
    omega
  · simp only [List.nil_append, hx] at hbk hnc
    exact ⟨rfl, g, cap, cur, lr, by rw [Lib.cell_of_heap hbk]; rfl, Lib.frozen_of_heap hbk 0, hbk, hBg, hg, hcm, hcs, hgb, b1, hnc⟩
set_option maxHeartbeats 2000000 in
set_option maxRecDepth 100000 in
theorem grow61 (B b n : Nat) (w : World) (hB : B ≤ b) (hBw : B ≤ w.heap.size) (hb : w.heap[b]? = some (.cells #[.slice none 0 0, .int .i64 0, .int .i8 0] 71 (0, 0))) (hn0 : 0 < n) (hn : n ≤ 140737488355328) :
    Calls Tryd.prog 61 #[.pointer (some ⟨b, 0, none⟩), .int .i64 n] w fun e w' => e = .returned (.tuple #[]) ∧ Lib.IsBuffer 71 5 B b [] w' ∧ Below B w w' := by
  have hneg : ¬ ((n : Int) < 0) := by omega
  go_enter Tryd.func61, Tryd.ntmps61
  go_wp2_with (go_at_call 78; refine (fresh78 B b n w hB hBw hb hn0 hn).mono ?_; rintro e W1 ⟨rfl, g, cap, cur, lr, c1, f1, hbk, hBg, hg, hcm, hcs, hgb, b1, hnc⟩)
  go_wp2
  go_end0
  refine ⟨rfl, ?_, b1.trans ((Below.refl B W1).setCell (p := ⟨b, 0, none⟩) hB _)⟩
  have hgf : (W1.setCell ⟨b, 0, none⟩ (.slice (some ⟨g, 0, none⟩) 0 cap)).heap[g]? = some (.cells cur 5 (0, 0)) := by rw [Below.heap_setCell _ _ _ _ hgb]; exact hg
  exact Lib.isBuffer_mk (T := 71) (n := 0) (lr := lr) hB (Lib.heap_setCell_same (i := 0) hbk _) hBg hgf (Nat.zero_le _) hcm hcs hgb
-- QUOTED
section
variable {a : Act} {w : World} {dst : Option Nat} {ty : TypeId} {pos : String} {af : Array Edge} {gd : Option (Nat × Bool)} {x y z : Operand}
theorem r_shr8 {n : Int} (h1 : a.eval x = .int .u8 n) (h0 : 0 ≤ n) (hn : n ≤ 255) : (execOp a.eval ⟨dst, .binOp .shr 5 x (.const (.int .u64 4)) 22, ty, pos, af, gd⟩).run Tryd.prog w = .ok (.value (.int .u8 (n / 16))) w := by
  unfold execOp
  dsimp only
  rw [h1]
  go_simp
theorem and15 (n : Int) (h0 : 0 ≤ n) (hn : n ≤ 255) : Go.bits .and .u8 n 15 = n % 16 := by
  have h : ∀ m : Fin 256, Go.bits .and .u8 ((m.val : Nat) : Int) 15 = ((m.val : Nat) : Int) % 16 := by decide +kernel
  obtain ⟨k, rfl⟩ := Int.eq_ofNat_of_zero_le h0
  exact h ⟨k, by omega⟩
theorem r_and8 {n : Int} (h1 : a.eval x = .int .u8 n) (h0 : 0 ≤ n) (hn : n ≤ 255) : (execOp a.eval ⟨dst, .binOp .and 5 x (.const (.int .u8 15)) 5, ty, pos, af, gd⟩).run Tryd.prog w = .ok (.value (.int .u8 (n % 16))) w := by
  unfold execOp
  dsimp only
  rw [h1]
  have := and15 n h0 hn
  go_simp
theorem r_add8 {n : Int} (h1 : a.eval x = .int .u8 n) (h0 : 0 ≤ n) (hn : n ≤ 254) : (execOp a.eval ⟨dst, .binOp .add 5 x (.const (.int .u8 1)) 5, ty, pos, af, gd⟩).run Tryd.prog w = .ok (.value (.int .u8 (n + 1))) w := by
  unfold execOp
  dsimp only
  rw [h1]
  have : IntKind.u8.wrap (n + 1) = n + 1 := by unfold IntKind.wrap; simp [IntKind.bits, IntKind.signed]; omega
  go_simp
theorem r_slice8 {S : ByteArray} {i j : Nat} (h1 : a.eval x = .string S) (h2 : a.eval y = .int .u8 (i : Int)) (h3 : a.eval z = .int .u8 (j : Int)) (hi : i ≤ j) (hj : j ≤ S.size) : (execOp a.eval ⟨dst, .slice 9 x (some y) (some z) none, ty, pos, af, gd⟩).run Tryd.prog w = .ok (.value (.string (S.extract i j))) w := by
  unfold execOp
  dsimp only [Option.map]
  rw [h1, h2, h3]
  have h4 : (i : Int) ≤ (j : Int) := by omega
  have h5 : (j : Int) ≤ (S.size : Int) := by omega
  go_simp
theorem r_shrn {k : Nat} (h1 : a.eval x = .int .u8 (k : Int)) (hk : k ≤ 255) : (execOp a.eval ⟨dst, .binOp .shr 5 x (.const (.int .u64 4)) 22, ty, pos, af, gd⟩).run Tryd.prog w = .ok (.value (.int .u8 ((k / 16 : Nat) : Int))) w := r_shr8 h1 (by omega) (by omega)
theorem r_andn {k : Nat} (h1 : a.eval x = .int .u8 (k : Int)) (hk : k ≤ 255) : (execOp a.eval ⟨dst, .binOp .and 5 x (.const (.int .u8 15)) 5, ty, pos, af, gd⟩).run Tryd.prog w = .ok (.value (.int .u8 ((k % 16 : Nat) : Int))) w := r_and8 h1 (by omega) (by omega)
theorem r_addn {k : Nat} (h1 : a.eval x = .int .u8 (k : Int)) (hk : k ≤ 254) : (execOp a.eval ⟨dst, .binOp .add 5 x (.const (.int .u8 1)) 5, ty, pos, af, gd⟩).run Tryd.prog w = .ok (.value (.int .u8 ((k + 1 : Nat) : Int))) w := r_add8 h1 (by omega) (by omega)
end
abbrev hexs : ByteArray := ⟨#[48, 49, 50, 51, 52, 53, 54, 55, 56, 57, 65, 66, 67, 68, 69, 70]⟩
def nib (n : Nat) : ByteArray := hexs.extract n (n + 1)
abbrev quoteB : ByteArray := ⟨#[226, 128, 155]⟩
def quoteByte (c : UInt8) : ByteArray := quoteB ++ nib (c.toNat / 16) ++ nib (c.toNat % 16)
theorem nib_size (n : Nat) (h : n < 16) : (nib n).size = 1 := by
  unfold nib
  rw [ByteArray.size_extract, show hexs.size = 16 by rfl]
  omega
theorem quoteByte_size (c : UInt8) : (quoteByte c).size = 5 := by
  unfold quoteByte
  have := c.toNat_lt
  rw [ByteArray.size_append, ByteArray.size_append, nib_size _ (by omega), nib_size _ (by omega)]
  rfl
theorem bytesRow_cells (s : ByteArray) (cap : Nat) (fr : Nat × Nat) (w : World) : ∀ j v, (Lib.byteCells s.data.toList)[j]? = some v → (w.alloc (.cells (bytesRow s cap) 5 fr)).cell? ((⟨w.heap.size, 0, none⟩ : Addr).add j) = some v := by
  intro j v hj
  have hnew : (w.alloc (.cells (bytesRow s cap) 5 fr)).heap[w.heap.size]? = some (.cells (bytesRow s cap) 5 fr) := heap_alloc_new w _
  rw [Lib.addr_add, Nat.zero_add, Lib.cell_of_heap hnew]
  have hl : j < s.data.size := by
    have := (List.getElem?_eq_some_iff.1 hj).1
    simpa [Lib.byteCells] using this
  rw [bytesRow_at s cap j hl]
  rw [← hj]
  simp only [Lib.byteCells, List.getElem?_map, Array.getElem?_toList, Array.getElem?_eq_getElem hl, Option.map_some]
theorem write138 (B b : Nat) (bs : List Value) (s : ByteArray) (w : World) (hI : Lib.IsBuffer 71 5 B b bs w) (hBw : B ≤ w.heap.size) (h1 : ∀ v ∈ bs, v.oneCell' = true) (hlim : bs.length + s.size ≤ 140737488355328) (cap : Nat) (fr : Nat × Nat) :
    Calls Tryd.prog 138 #[.pointer (some ⟨b, 0, none⟩), .slice (some ⟨w.heap.size, 0, none⟩) s.size cap] (w.alloc (.cells (bytesRow s cap) 5 fr)) fun e w' => e = .returned (.tuple #[.int .i64 s.size, .nilIface]) ∧ Lib.IsBuffer 71 5 B b (bs ++ Lib.byteCells s.data.toList) w' ∧ Below B (w.alloc (.cells (bytesRow s cap) 5 fr)) w' ∧ Lib.OthersKept 5 (some b) (w.alloc (.cells (bytesRow s cap) 5 fr)) w' :=
  Any.Buffer_Write_any Laid.L_n180 B b bs (Lib.byteCells s.data.toList) ⟨w.heap.size, 0, none⟩ s.size cap _ (hI.alloc _) (by simp; omega) h1 (by simp [Lib.byteCells]) (Nat.ne_of_gt hI.lt) (bytesRow_cells s cap fr w) (Lib.byteCells_one _) hlim
theorem write138q (B b : Nat) (bs : List Value) (s : ByteArray) (w : World) (hI : Lib.IsBuffer 71 5 B b bs w) (hBw : B ≤ w.heap.size) (h1 : ∀ v ∈ bs, v.oneCell' = true) (h5 : s.size = 5) (hlim : bs.length + 5 ≤ 140737488355328) (qs : List Value) (hqs : Lib.byteCells s.data.toList = qs) (cap : Nat) (fr : Nat × Nat) :
    Calls Tryd.prog 138 #[.pointer (some ⟨b, 0, none⟩), .slice (some ⟨w.heap.size, 0, none⟩) 5 cap] (w.alloc (.cells (bytesRow s cap) 5 fr)).drew.drew fun e w' => e = .returned (.tuple #[.int .i64 5, .nilIface]) ∧ Lib.IsBuffer 71 5 B b (bs ++ qs) w' ∧ Below B w w' ∧ Lib.OthersKept 5 (some b) w w' := by
  have h := write138 B b bs s w.drew.drew hI hBw h1 (by omega) cap fr
  rw [h5, hqs] at h
  refine h.mono ?_
  rintro e w' ⟨he, h2, h3, h4⟩
  exact ⟨he, h2, ((Below.refl B w).drew.drew.alloc hBw (.cells (bytesRow s cap) 5 fr)).trans h3, ((Lib.OthersKept.refl 5 (some b) w).drew.drew.alloc (.cells (bytesRow s cap) 5 fr)).trans h4⟩
theorem m79 (x : Option Addr) (w : World) : (method 264 79 (.pointer x) "Write").run Tryd.prog w = .ok (138, .pointer x) w := by kernel_rfl
theorem na79 (x : Addr) (w : World) : (nilAhead 264 79 (.pointer (some x)) "Write").run Tryd.prog w = .ok (some false) w := by kernel_rfl
set_option maxHeartbeats 4000000 in
set_option maxRecDepth 100000 in
theorem quoted64 (B b : Nat) (bs : List Value) (c : UInt8) (w : World) (hI : Lib.IsBuffer 71 5 B b bs w) (hBw : B ≤ w.heap.size) (h1 : ∀ v ∈ bs, v.oneCell' = true) (hlim : bs.length + 5 ≤ 140737488355328) :
    Calls Tryd.prog 64 #[.iface 79 (.pointer (some ⟨b, 0, none⟩)), .string ⟨#[c]⟩] w fun e w' => e = .returned (.tuple #[]) ∧ Lib.IsBuffer 71 5 B b (bs ++ Lib.byteCells (quoteByte c).data.toList) w' ∧ Below B w w' ∧ Lib.OthersKept 5 (some b) w w' := by
  have hm := m79
  have hna := na79
  have hct := c.toNat_lt
  have hc1 := Lib.hid (show c.toNat ≤ 255 by omega)
  have hh1 := Lib.hid (show c.toNat / 16 ≤ 254 by omega)
  have hl1 := Lib.hid (show c.toNat % 16 ≤ 254 by omega)
  have hi1 := Lib.hid (show c.toNat / 16 + 1 ≤ hexs.size by rw [show hexs.size = 16 by rfl]; omega)
  have hi2 := Lib.hid (show c.toNat % 16 + 1 ≤ hexs.size by rw [show hexs.size = 16 by rfl]; omega)
  have hs1 := Lib.hid (show quoteB.size + (nib (c.toNat / 16)).size ≤ 140737488355327 by rw [nib_size _ (by omega)]; decide)
  have hs2 := Lib.hid (show (quoteB ++ nib (c.toNat / 16)).size + (nib (c.toNat % 16)).size ≤ 140737488355327 by rw [ByteArray.size_append, nib_size _ (by omega), nib_size _ (by omega)]; decide)
  have hq := quoteByte_size c
  have hcv : ∀ (s : ByteArray) (w : World), (convert 9 23 (.string s)).run Tryd.prog w = _ := fun s w => run_bytes_of_string (P := Tryd.prog) w 9 23 5 s Tryd.underlying9 Tryd.underlying23 Tryd.underlying5
  obtain ⟨qs, hqs⟩ : ∃ q, Lib.byteCells (quoteByte c).data.toList = q := ⟨_, rfl⟩
  rw [hqs]
  have hqs' := Lib.hid hqs
  clear hqs
  have hs1' : (⟨#[c]⟩ : ByteArray).size = 1 := rfl
  go_enter Tryd.func64, Tryd.ntmps64
  go_wp2
  generalize hcap : grownCap w 1 0 5 = cap
  generalize hfr : ((bytesRow ⟨#[c]⟩ cap).size, (bytesRow ⟨#[c]⟩ cap).size + 1) = fr
  have hcell : (w.alloc (.cells (bytesRow ⟨#[c]⟩ cap) 5 fr)).cell? ⟨w.heap.size, 0, none⟩ = some (.int .u8 (c.toNat : Int)) :=
    bytesRow_cells ⟨#[c]⟩ cap fr w 0 (.int .u8 (c.toNat : Int)) rfl
  have hIW := ((hI.alloc (.cells (bytesRow ⟨#[c]⟩ cap) 5 fr)).drew)
  have hbW := ((Below.refl B w).alloc hBw (.cells (bytesRow ⟨#[c]⟩ cap) 5 fr)).drew
  have hkW := ((Lib.OthersKept.refl 5 (some b) w).alloc (.cells (bytesRow ⟨#[c]⟩ cap) 5 fr)).drew
  have hcW : ((w.alloc (.cells (bytesRow ⟨#[c]⟩ cap) 5 fr)).drew).cell? ⟨w.heap.size, 0, none⟩ = some (.int .u8 (c.toNat : Int)) := hcell
  clear hcell hcv hI hcap hfr
  generalize (w.alloc (.cells (bytesRow ⟨#[c]⟩ cap) 5 fr)).drew = W at hIW hbW hkW hcW ⊢
  clear hs1'
  go_loopg [9] 1 (fun gf s9 wx => ∃ (i : Nat), s9 = .int .i64 (i : Int) ∧ i ≤ 1 ∧ 1 ≤ i + gf ∧ Lib.IsBuffer 71 5 B b (bs ++ if i = 0 then [] else qs) wx ∧ Below B w wx ∧ Lib.OthersKept 5 (some b) w wx ∧ B ≤ wx.heap.size ∧ (i = 0 → wx.cell? ⟨w.heap.size, 0, none⟩ = some (.int .u8 (c.toNat : Int))))
  case atStart => exact ⟨0, rfl, by omega, by omega, by simpa using hIW, hbW, hkW, Nat.le_trans hBw hbW.size, fun _ => hcW⟩
  case round =>
    obtain ⟨i, rfl, hi, hgi, hIr, hbr, hkr, hBr, hce⟩ := hrel
    by_cases hz : i = 0
    · subst hz
      have hce' := hce rfl
      obtain ⟨g', rfl⟩ : ∃ g', gk = g' + 1 := ⟨gk - 1, by omega⟩
      simp only [if_true, List.append_nil] at hIr
      have hwr := Lib.hid (write138q B b bs (quoteByte c) wr hIr hBr h1 hq hlim qs hqs'.out)
      clear hce hIW hbW hkW hcW
      have hcv : ∀ (s : ByteArray) (w : World), (convert 9 23 (.string s)).run Tryd.prog w = _ := fun s w => run_bytes_of_string (P := Tryd.prog) w 9 23 5 s Tryd.underlying9 Tryd.underlying23 Tryd.underlying5
      go_upto_region 3 with fail
      refine wp_region_noPanic ?_
      refine wp_region_held_drew (S := (fun _ => True)) (by kernel_rfl) ?h1 (fun hHeld => ?k1)
      case h1 => ((try dsimp only); all_goals trivial)
      refine wpAnyH_take (i := 0) (oi := { dst := some 14, op := Go.Op.move (Go.Operand.tmp 0), type := 94, pos := "encoder.go:1247", after := #[], guard := none }) (v := ?v2) rfl (by kernel_rfl) (by kernel_rfl) (by kernel_rfl) (fun _ _ _ h => h) (Or.inl ⟨by rfl, ?y2⟩) (by assumption) ?r2
      case y2 => (intro w hSw; (try dsimp only at hSw); first | (go_simp; done) | (go_simp; with_reducible rfl))
      try simp only [Act.put, List.setIfInBounds_toArray, List.set_cons_zero, List.set_cons_succ]
      refine wpAnyH_take (i := 1) (oi := { dst := some 15, op := Go.Op.move (Go.Operand.tmp 5), type := 5, pos := "encoder.go:1247", after := #[], guard := none }) (v := ?v3) rfl (by kernel_rfl) (by kernel_rfl) (by kernel_rfl) (fun _ _ _ h => h) (Or.inl ⟨by rfl, ?y3⟩) (by assumption) ?r3
      case y3 => (intro w hSw; (try dsimp only at hSw); first | (go_simp; done) | (go_simp; with_reducible rfl))
      try simp only [Act.put, List.setIfInBounds_toArray, List.set_cons_zero, List.set_cons_succ]
      refine wpAnyH_take (i := 2) (oi := { dst := some 16, op := Go.Op.binOp Go.BinOp.shr 5 (Go.Operand.tmp 15) (Go.Operand.const (Go.Value.int Go.IntKind.u64 4)) 22, type := 5, pos := "encoder.go:1247", after := #[{ on := 1, ground := Go.Ground.data }], guard := none }) (v := (.int .u8 ((c.toNat / 16 : Nat) : Int))) rfl (by kernel_rfl) (by kernel_rfl) (by kernel_rfl) (fun _ _ _ h => h) (Or.inl ⟨by rfl, ?y4⟩) (by assumption) ?r4
      case y4 => (intro w hSw; exact r_shrn rfl hc1.out)
      try simp only [Act.put, List.setIfInBounds_toArray, List.set_cons_zero, List.set_cons_succ]
      refine wpAnyH_take (i := 3) (oi := { dst := some 17, op := Go.Op.move (Go.Operand.tmp 5), type := 5, pos := "encoder.go:1247", after := #[], guard := none }) (v := ?v5) rfl (by kernel_rfl) (by kernel_rfl) (by kernel_rfl) (fun _ _ _ h => h) (Or.inl ⟨by rfl, ?y5⟩) (by assumption) ?r5
      case y5 => (intro w hSw; (try dsimp only at hSw); first | (go_simp; done) | (go_simp; with_reducible rfl))
      try simp only [Act.put, List.setIfInBounds_toArray, List.set_cons_zero, List.set_cons_succ]
      refine wpAnyH_take (i := 4) (oi := { dst := some 18, op := Go.Op.binOp Go.BinOp.shr 5 (Go.Operand.tmp 17) (Go.Operand.const (Go.Value.int Go.IntKind.u64 4)) 22, type := 5, pos := "encoder.go:1247", after := #[{ on := 3, ground := Go.Ground.data }], guard := none }) (v := (.int .u8 ((c.toNat / 16 : Nat) : Int))) rfl (by kernel_rfl) (by kernel_rfl) (by kernel_rfl) (fun _ _ _ h => h) (Or.inl ⟨by rfl, ?y6⟩) (by assumption) ?r6
      case y6 => (intro w hSw; exact r_shrn rfl hc1.out)
      try simp only [Act.put, List.setIfInBounds_toArray, List.set_cons_zero, List.set_cons_succ]
      refine wpAnyH_take (i := 5) (oi := { dst := some 19, op := Go.Op.binOp Go.BinOp.add 5 (Go.Operand.tmp 18) (Go.Operand.const (Go.Value.int Go.IntKind.u8 1)) 5, type := 5, pos := "encoder.go:1247", after := #[{ on := 4, ground := Go.Ground.data }], guard := none }) (v := (.int .u8 ((c.toNat / 16 + 1 : Nat) : Int))) rfl (by kernel_rfl) (by kernel_rfl) (by kernel_rfl) (fun _ _ _ h => h) (Or.inl ⟨by rfl, ?y7⟩) (by assumption) ?r7
      case y7 => (intro w hSw; exact r_addn rfl hh1.out)
      try simp only [Act.put, List.setIfInBounds_toArray, List.set_cons_zero, List.set_cons_succ]
      refine wpAnyH_take (i := 6) (oi := { dst := some 20, op := Go.Op.slice 9 (Go.Operand.const (Go.Value.string { data := #[48, 49, 50, 51, 52, 53, 54, 55, 56, 57, 65, 66, 67, 68, 69, 70] })) (some (Go.Operand.tmp 16)) (some (Go.Operand.tmp 19)) none, type := 9, pos := "encoder.go:1247", after := #[{ on := 2, ground := Go.Ground.data }, { on := 5, ground := Go.Ground.data }], guard := none }) (v := (.string (nib (c.toNat / 16)))) rfl (by kernel_rfl) (by kernel_rfl) (by kernel_rfl) (fun _ _ _ h => h) (Or.inl ⟨by rfl, ?y8⟩) (by assumption) ?r8
      case y8 => (intro w hSw; exact r_slice8 rfl rfl rfl (Nat.le_succ _) hi1.out)
      try simp only [Act.put, List.setIfInBounds_toArray, List.set_cons_zero, List.set_cons_succ]
      refine wpAnyH_take (i := 7) (oi := { dst := some 21, op := Go.Op.binOp Go.BinOp.add 9 (Go.Operand.const (Go.Value.string { data := #[226, 128, 155] })) (Go.Operand.tmp 20) 9, type := 9, pos := "encoder.go:1247", after := #[{ on := 6, ground := Go.Ground.data }], guard := none }) (v := (.string (quoteB ++ nib (c.toNat / 16)))) rfl (by kernel_rfl) (by kernel_rfl) (by kernel_rfl) (fun _ _ _ h => h) (Or.inl ⟨by rfl, ?y9⟩) (by assumption) ?r9
      case y9 => (intro w hSw; exact r_adds rfl rfl hs1.out)
      try simp only [Act.put, List.setIfInBounds_toArray, List.set_cons_zero, List.set_cons_succ]
      refine wpAnyH_take (i := 8) (oi := { dst := some 22, op := Go.Op.move (Go.Operand.tmp 5), type := 5, pos := "encoder.go:1247", after := #[], guard := none }) (v := ?v10) rfl (by kernel_rfl) (by kernel_rfl) (by kernel_rfl) (fun _ _ _ h => h) (Or.inl ⟨by rfl, ?y10⟩) (by assumption) ?r10
      case y10 => (intro w hSw; (try dsimp only at hSw); first | (go_simp; done) | (go_simp; with_reducible rfl))
      try simp only [Act.put, List.setIfInBounds_toArray, List.set_cons_zero, List.set_cons_succ]
      refine wpAnyH_take (i := 9) (oi := { dst := some 23, op := Go.Op.binOp Go.BinOp.and 5 (Go.Operand.tmp 22) (Go.Operand.const (Go.Value.int Go.IntKind.u8 15)) 5, type := 5, pos := "encoder.go:1247", after := #[{ on := 8, ground := Go.Ground.data }], guard := none }) (v := (.int .u8 ((c.toNat % 16 : Nat) : Int))) rfl (by kernel_rfl) (by kernel_rfl) (by kernel_rfl) (fun _ _ _ h => h) (Or.inl ⟨by rfl, ?y11⟩) (by assumption) ?r11
      case y11 => (intro w hSw; exact r_andn rfl hc1.out)
      try simp only [Act.put, List.setIfInBounds_toArray, List.set_cons_zero, List.set_cons_succ]
      refine wpAnyH_take (i := 10) (oi := { dst := some 24, op := Go.Op.move (Go.Operand.tmp 5), type := 5, pos := "encoder.go:1247", after := #[], guard := none }) (v := ?v12) rfl (by kernel_rfl) (by kernel_rfl) (by kernel_rfl) (fun _ _ _ h => h) (Or.inl ⟨by rfl, ?y12⟩) (by assumption) ?r12
      case y12 => (intro w hSw; (try dsimp only at hSw); first | (go_simp; done) | (go_simp; with_reducible rfl))
      try simp only [Act.put, List.setIfInBounds_toArray, List.set_cons_zero, List.set_cons_succ]
      refine wpAnyH_take (i := 11) (oi := { dst := some 25, op := Go.Op.binOp Go.BinOp.and 5 (Go.Operand.tmp 24) (Go.Operand.const (Go.Value.int Go.IntKind.u8 15)) 5, type := 5, pos := "encoder.go:1247", after := #[{ on := 10, ground := Go.Ground.data }], guard := none }) (v := (.int .u8 ((c.toNat % 16 : Nat) : Int))) rfl (by kernel_rfl) (by kernel_rfl) (by kernel_rfl) (fun _ _ _ h => h) (Or.inl ⟨by rfl, ?y13⟩) (by assumption) ?r13
      case y13 => (intro w hSw; exact r_andn rfl hc1.out)
      try simp only [Act.put, List.setIfInBounds_toArray, List.set_cons_zero, List.set_cons_succ]
      refine wpAnyH_take (i := 12) (oi := { dst := some 26, op := Go.Op.binOp Go.BinOp.add 5 (Go.Operand.tmp 25) (Go.Operand.const (Go.Value.int Go.IntKind.u8 1)) 5, type := 5, pos := "encoder.go:1247", after := #[{ on := 11, ground := Go.Ground.data }], guard := none }) (v := (.int .u8 ((c.toNat % 16 + 1 : Nat) : Int))) rfl (by kernel_rfl) (by kernel_rfl) (by kernel_rfl) (fun _ _ _ h => h) (Or.inl ⟨by rfl, ?y14⟩) (by assumption) ?r14
      case y14 => (intro w hSw; exact r_addn rfl hl1.out)
      try simp only [Act.put, List.setIfInBounds_toArray, List.set_cons_zero, List.set_cons_succ]
      refine wpAnyH_take (i := 13) (oi := { dst := some 27, op := Go.Op.slice 9 (Go.Operand.const (Go.Value.string { data := #[48, 49, 50, 51, 52, 53, 54, 55, 56, 57, 65, 66, 67, 68, 69, 70] })) (some (Go.Operand.tmp 23)) (some (Go.Operand.tmp 26)) none, type := 9, pos := "encoder.go:1247", after := #[{ on := 9, ground := Go.Ground.data }, { on := 12, ground := Go.Ground.data }], guard := none }) (v := (.string (nib (c.toNat % 16)))) rfl (by kernel_rfl) (by kernel_rfl) (by kernel_rfl) (fun _ _ _ h => h) (Or.inl ⟨by rfl, ?y15⟩) (by assumption) ?r15
      case y15 => (intro w hSw; exact r_slice8 rfl rfl rfl (Nat.le_succ _) hi2.out)
      try simp only [Act.put, List.setIfInBounds_toArray, List.set_cons_zero, List.set_cons_succ]
      refine wpAnyH_take (i := 14) (oi := { dst := some 28, op := Go.Op.binOp Go.BinOp.add 9 (Go.Operand.tmp 21) (Go.Operand.tmp 27) 9, type := 9, pos := "encoder.go:1247", after := #[{ on := 7, ground := Go.Ground.data }, { on := 13, ground := Go.Ground.data }], guard := none }) (v := (.string (quoteByte c))) rfl (by kernel_rfl) (by kernel_rfl) (by kernel_rfl) (fun _ _ _ h => h) (Or.inl ⟨by rfl, ?y16⟩) (by assumption) ?r16
      case y16 => (intro w hSw; exact r_adds rfl rfl hs2.out)
      try simp only [Act.put, List.setIfInBounds_toArray, List.set_cons_zero, List.set_cons_succ]
      refine wpAnyH_ready (rs := [15, 16]) (by kernel_rfl) (by simp) ?_
      refine AllReadyH.cons (o := { dst := some 29, op := Go.Op.convert 9 23 (Go.Operand.tmp 28), type := 23, pos := "encoder.go:1247", after := #[{ on := 14, ground := Go.Ground.data }], guard := none }) rfl (fun K hK => ?s17) ?m17
      case s17 =>
        go_simp
        refine hK.out _ _ ?h17 (fun hHeld => ?k17)
        case h17 => ((try dsimp only); all_goals trivial)
        clear hK K
        try simp only [Act.put, List.setIfInBounds_toArray, List.set_cons_zero, List.set_cons_succ]
        refine wpAnyH_ready (rs := [16]) (by kernel_rfl) (by simp) ?_
        refine AllReadyH.cons (o := { dst := some 30, op := Go.Op.makeFunc (Go.Fn.method "Write") #[Go.Operand.tmp 14] #[], type := 95, pos := "encoder.go:1247", after := #[{ on := 0, ground := Go.Ground.data }], guard := none }) rfl (fun K hK => ?s18) ?m18
        case m18 => exact AllReadyH.nil
        go_simp
        refine hK.out _ _ ?h18 (fun hHeld => ?k18)
        case h18 => ((try dsimp only); all_goals trivial)
        clear hK K
        try simp only [Act.put, List.setIfInBounds_toArray, List.set_cons_zero, List.set_cons_succ]
        refine wpAnyH_take (i := 17) (oi := { dst := some 31, op := Go.Op.nilCheck (Go.Operand.tmp 30), type := 95, pos := "encoder.go:1247", after := #[{ on := 16, ground := Go.Ground.data }], guard := none }) (v := ?v19) rfl (by kernel_rfl) (by kernel_rfl) (by kernel_rfl) (fun _ _ _ h => h) (Or.inl ⟨by rfl, ?y19⟩) (by assumption) ?r19
        case y19 => (intro w hSw; (try dsimp only at hSw); first | (go_simp; done) | (go_simp; with_reducible rfl))
        try simp only [Act.put, List.setIfInBounds_toArray, List.set_cons_zero, List.set_cons_succ]
        refine wpAnyH_take (i := 18) (oi := { dst := some 32, op := Go.Op.move (Go.Operand.tmp 14), type := 94, pos := "encoder.go:1247", after := #[{ on := 0, ground := Go.Ground.data }, { on := 16, ground := Go.Ground.data }, { on := 17, ground := Go.Ground.data }], guard := none }) (v := ?v20) rfl (by kernel_rfl) (by kernel_rfl) (by kernel_rfl) (fun _ _ _ h => h) (Or.inl ⟨by rfl, ?y20⟩) (by assumption) ?r20
        case y20 => (intro w hSw; (try dsimp only at hSw); first | (go_simp; done) | (go_simp; with_reducible rfl))
        try simp only [Act.put, List.setIfInBounds_toArray, List.set_cons_zero, List.set_cons_succ]
        refine wpAnyH_ready (rs := [19]) (by kernel_rfl) (by simp) ?_
        refine AllReadyH.cons (o := { dst := some 33, op := Go.Op.call { callee := Go.Callee.invoke (Go.Operand.tmp 32) "Write", args := #[Go.Operand.tmp 29], argTypes := #[23] }, type := 75, pos := "encoder.go:1247", after := #[{ on := 18, ground := Go.Ground.data }, { on := 15, ground := Go.Ground.data }], guard := none }) rfl (fun K hK => ?s21) ?m21
        case m21 => exact AllReadyH.nil
        go_simp; go_at_call 138; refine (hwr.out _ _).mono ?_; rintro e w2 ⟨rfl, hI2, hb2, hk2⟩
        refine hK.out _ _ ?h21 (fun hHeld => ?k21)
        case h21 => ((try dsimp only); all_goals trivial)
        clear hK K
        try simp only [Act.put, List.setIfInBounds_toArray, List.set_cons_zero, List.set_cons_succ]
        refine wpAnyH_take (i := 20) (oi := { dst := some 13, op := Go.Op.move (Go.Operand.tmp 33), type := 75, pos := "encoder.go:1247", after := #[{ on := 19, ground := Go.Ground.data }], guard := none }) (v := ?v22) rfl (by kernel_rfl) (by kernel_rfl) (by kernel_rfl) (fun _ _ _ h => h) (Or.inl ⟨by rfl, ?y22⟩) (by assumption) ?r22
        case y22 => (intro w hSw; (try dsimp only at hSw); first | (go_simp; done) | (go_simp; with_reducible rfl))
        try simp only [Act.put, List.setIfInBounds_toArray, List.set_cons_zero, List.set_cons_succ]
        refine wpAnyH_take (i := 21) (oi := { dst := some 34, op := Go.Op.extract (Go.Operand.tmp 13) 0, type := 3, pos := "encoder.go:1247", after := #[{ on := 20, ground := Go.Ground.data }], guard := none }) (v := ?v23) rfl (by kernel_rfl) (by kernel_rfl) (by kernel_rfl) (fun _ _ _ h => h) (Or.inl ⟨by rfl, ?y23⟩) (by assumption) ?r23
        case y23 => (intro w hSw; (try dsimp only at hSw); first | (go_simp; done) | (go_simp; with_reducible rfl))
        try simp only [Act.put, List.setIfInBounds_toArray, List.set_cons_zero, List.set_cons_succ]
        refine wpAnyH_take (i := 22) (oi := { dst := some 35, op := Go.Op.extract (Go.Operand.tmp 13) 1, type := 74, pos := "encoder.go:1247", after := #[{ on := 20, ground := Go.Ground.data }], guard := none }) (v := ?v24) rfl (by kernel_rfl) (by kernel_rfl) (by kernel_rfl) (fun _ _ _ h => h) (Or.inl ⟨by rfl, ?y24⟩) (by assumption) ?r24
        case y24 => (intro w hSw; (try dsimp only at hSw); first | (go_simp; done) | (go_simp; with_reducible rfl))
        try simp only [Act.put, List.setIfInBounds_toArray, List.set_cons_zero, List.set_cons_succ]
        refine wpAnyH_done (by kernel_rfl) ?_ _
        refine NoPanic.normal ?_
        have hend := Lib.hid (And.intro hI2 (And.intro (hbr.trans hb2) (And.intro (hkr.trans hk2) (Nat.le_trans hBr hb2.size))))
        clear hI2 hb2 hk2 hbr hkr hBr hIr hq hct hm hna hqs'
        go_wp2_with (fail)
        go_roundg g'
        case measure => exact Nat.lt_succ_self _
        case rel => exact ⟨1, rfl, Nat.le_refl _, by omega, by simpa using hend.out.1, hend.out.2.1, hend.out.2.2.1, hend.out.2.2.2, fun h => by cases h⟩
      refine AllReadyH.cons (o := { dst := some 30, op := Go.Op.makeFunc (Go.Fn.method "Write") #[Go.Operand.tmp 14] #[], type := 95, pos := "encoder.go:1247", after := #[{ on := 0, ground := Go.Ground.data }], guard := none }) rfl (fun K hK => ?s25) ?m25
      case s25 =>
        go_simp
        refine hK.out _ _ ?h25 (fun hHeld => ?k25)
        case h25 => ((try dsimp only); all_goals trivial)
        clear hK K
        try simp only [Act.put, List.setIfInBounds_toArray, List.set_cons_zero, List.set_cons_succ]
        refine wpAnyH_take (i := 17) (oi := { dst := some 31, op := Go.Op.nilCheck (Go.Operand.tmp 30), type := 95, pos := "encoder.go:1247", after := #[{ on := 16, ground := Go.Ground.data }], guard := none }) (v := ?v26) rfl (by kernel_rfl) (by kernel_rfl) (by kernel_rfl) (fun _ _ _ h => h) (Or.inl ⟨by rfl, ?y26⟩) (by assumption) ?r26
        case y26 => (intro w hSw; (try dsimp only at hSw); first | (go_simp; done) | (go_simp; with_reducible rfl))
        try simp only [Act.put, List.setIfInBounds_toArray, List.set_cons_zero, List.set_cons_succ]
        refine wpAnyH_take (i := 18) (oi := { dst := some 32, op := Go.Op.move (Go.Operand.tmp 14), type := 94, pos := "encoder.go:1247", after := #[{ on := 0, ground := Go.Ground.data }, { on := 16, ground := Go.Ground.data }, { on := 17, ground := Go.Ground.data }], guard := none }) (v := ?v27) rfl (by kernel_rfl) (by kernel_rfl) (by kernel_rfl) (fun _ _ _ h => h) (Or.inl ⟨by rfl, ?y27⟩) (by assumption) ?r27
        case y27 => (intro w hSw; (try dsimp only at hSw); first | (go_simp; done) | (go_simp; with_reducible rfl))
        try simp only [Act.put, List.setIfInBounds_toArray, List.set_cons_zero, List.set_cons_succ]
        refine wpAnyH_ready (rs := [15]) (by kernel_rfl) (by simp) ?_
        refine AllReadyH.cons (o := { dst := some 29, op := Go.Op.convert 9 23 (Go.Operand.tmp 28), type := 23, pos := "encoder.go:1247", after := #[{ on := 14, ground := Go.Ground.data }], guard := none }) rfl (fun K hK => ?s28) ?m28
        case m28 => exact AllReadyH.nil
        go_simp
        refine hK.out _ _ ?h28 (fun hHeld => ?k28)
        case h28 => ((try dsimp only); all_goals trivial)
        clear hK K
        try simp only [Act.put, List.setIfInBounds_toArray, List.set_cons_zero, List.set_cons_succ]
        refine wpAnyH_ready (rs := [19]) (by kernel_rfl) (by simp) ?_
        refine AllReadyH.cons (o := { dst := some 33, op := Go.Op.call { callee := Go.Callee.invoke (Go.Operand.tmp 32) "Write", args := #[Go.Operand.tmp 29], argTypes := #[23] }, type := 75, pos := "encoder.go:1247", after := #[{ on := 18, ground := Go.Ground.data }, { on := 15, ground := Go.Ground.data }], guard := none }) rfl (fun K hK => ?s29) ?m29
        case m29 => exact AllReadyH.nil
        go_simp; go_at_call 138; refine (hwr.out _ _).mono ?_; rintro e w2 ⟨rfl, hI2, hb2, hk2⟩
        refine hK.out _ _ ?h29 (fun hHeld => ?k29)
        case h29 => ((try dsimp only); all_goals trivial)
        clear hK K
        try simp only [Act.put, List.setIfInBounds_toArray, List.set_cons_zero, List.set_cons_succ]
        refine wpAnyH_take (i := 20) (oi := { dst := some 13, op := Go.Op.move (Go.Operand.tmp 33), type := 75, pos := "encoder.go:1247", after := #[{ on := 19, ground := Go.Ground.data }], guard := none }) (v := ?v30) rfl (by kernel_rfl) (by kernel_rfl) (by kernel_rfl) (fun _ _ _ h => h) (Or.inl ⟨by rfl, ?y30⟩) (by assumption) ?r30
        case y30 => (intro w hSw; (try dsimp only at hSw); first | (go_simp; done) | (go_simp; with_reducible rfl))
        try simp only [Act.put, List.setIfInBounds_toArray, List.set_cons_zero, List.set_cons_succ]
        refine wpAnyH_take (i := 21) (oi := { dst := some 34, op := Go.Op.extract (Go.Operand.tmp 13) 0, type := 3, pos := "encoder.go:1247", after := #[{ on := 20, ground := Go.Ground.data }], guard := none }) (v := ?v31) rfl (by kernel_rfl) (by kernel_rfl) (by kernel_rfl) (fun _ _ _ h => h) (Or.inl ⟨by rfl, ?y31⟩) (by assumption) ?r31
        case y31 => (intro w hSw; (try dsimp only at hSw); first | (go_simp; done) | (go_simp; with_reducible rfl))
        try simp only [Act.put, List.setIfInBounds_toArray, List.set_cons_zero, List.set_cons_succ]
        refine wpAnyH_take (i := 22) (oi := { dst := some 35, op := Go.Op.extract (Go.Operand.tmp 13) 1, type := 74, pos := "encoder.go:1247", after := #[{ on := 20, ground := Go.Ground.data }], guard := none }) (v := ?v32) rfl (by kernel_rfl) (by kernel_rfl) (by kernel_rfl) (fun _ _ _ h => h) (Or.inl ⟨by rfl, ?y32⟩) (by assumption) ?r32
        case y32 => (intro w hSw; (try dsimp only at hSw); first | (go_simp; done) | (go_simp; with_reducible rfl))
        try simp only [Act.put, List.setIfInBounds_toArray, List.set_cons_zero, List.set_cons_succ]
        refine wpAnyH_done (by kernel_rfl) ?_ _
        refine NoPanic.normal ?_
        have hend := Lib.hid (And.intro hI2 (And.intro (hbr.trans hb2) (And.intro (hkr.trans hk2) (Nat.le_trans hBr hb2.size))))
        clear hI2 hb2 hk2 hbr hkr hBr hIr hq hct hm hna hqs'
        go_wp2_with (fail)
        go_roundg g'
        case measure => exact Nat.lt_succ_self _
        case rel => exact ⟨1, rfl, Nat.le_refl _, by omega, by simpa using hend.out.1, hend.out.2.1, hend.out.2.2.1, hend.out.2.2.2, fun h => by cases h⟩
      exact AllReadyH.nil
    · have hz1 : i = 1 := by omega
      subst hz1
      simp only [Nat.one_ne_zero, if_false] at hIr
      go_wp2
      go_end0
      exact ⟨rfl, hIr, hbr, hkr⟩
end Go.Proofs.YtonmnpmklkbioaaDoor.Sy
/- The alphabet of the buffer's statements (Encode), and that its rules are sound. -/
namespace Go.Proofs.YtonmnpmklkbioaaDoor.Sy
open Go.RowKit Go.Proofs.YtonmnpmklkbioaaDoorW.PrintWords
set_option linter.unusedVariables false
set_option linter.unusedSimpArgs false
/-- The strings. -/
inductive Sb where
  | K | P | U | S | klo | khi | subw
  deriving DecidableEq
inductive Ab where
  | mptr | mask | buf | ifc | itp
  | re (x : RE)
  | has (b : Int)
  | cmp (o : Cm) (c : Int)
  | str (s : Sb)
  | len (s : Sb)
  | idx | lkp | lkpu
  | pos | pos3 | posw | sub3 | tail | dtup | drune | dwid | nxt
  | wres (x : RE)
  | sres (s : Sb)
  deriving DecidableEq
/-- What is done to the buffer: it grows; a rune, a string, a byte in quotes is written. -/
inductive Ef where
  | gr
  | rn (x : RE)
  | st (s : Sb)
  | qt
/-- What is known ahead. -/
structure Fb where
  neg : Bool
  near : Bool
  b3 : Bool
  bad : Bool
  fresh : Bool
structure Cb where
  mp : Addr
  m : Int
  b : Nat
  it : Nat
  r : Int
  K : ByteArray
  P : ByteArray
  U : ByteArray
  S : ByteArray
  ix : Int
  pos : Nat
  c : UInt8
  fl : Fb
def Cb.d (x : Cb) : Nat × Nat := Lib.decodeGo (x.S.extract x.pos x.S.size)
def Cb.str (x : Cb) : Sb → ByteArray
  | .K => x.K
  | .P => x.P
  | .U => x.U
  | .S => x.S
  | .klo => x.K.extract 0 x.ix.toNat
  | .khi => x.K.extract x.ix.toNat x.K.size
  | .subw => x.S.extract x.pos (x.pos + x.d.2)
def Cb.B (x : Cb) : Ab → Bool
  | .has b => hasB x.m b
  | .cmp o c => o.on x.r c
  | _ => false
def Cb.V (x : Cb) : Ab → Value
  | .mptr => .pointer (some x.mp)
  | .mask => .int .u64 x.m
  | .buf => .pointer (some ⟨x.b, 0, none⟩)
  | .ifc => .iface 79 (.pointer (some ⟨x.b, 0, none⟩))
  | .itp => .pointer (some ⟨x.it, 0, none⟩)
  | .re y => .int .i32 (y.int x.r)
  | .has b => .bool (hasB x.m b)
  | .cmp o c => .bool (o.on x.r c)
  | .str s => .string (x.str s)
  | .len s => .int .i64 ((x.str s).size : Int)
  | .idx => .int .i64 x.ix
  | .lkp => .int .i64 ((x.K.size + x.P.size : Nat) : Int)
  | .lkpu => .int .i64 ((x.K.size + x.P.size + x.U.size : Nat) : Int)
  | .pos => .int .i64 (x.pos : Int)
  | .pos3 => .int .i64 ((x.pos + 3 : Nat) : Int)
  | .posw => .int .i64 ((x.pos + x.d.2 : Nat) : Int)
  | .sub3 => .string (x.S.extract x.pos (x.pos + 3))
  | .tail => .string (x.S.extract x.pos x.S.size)
  | .dtup => .tuple #[.int .i32 (x.d.1 : Int), .int .i64 (x.d.2 : Int)]
  | .drune => .int .i32 (x.d.1 : Int)
  | .dwid => .int .i64 (x.d.2 : Int)
  | .nxt => .tuple #[.bool true, .int .i64 (x.pos : Int), .int .i32 x.r]
  | .wres y => .tuple #[.int .i64 ((Lib.runeCells (y.int x.r)).length : Int), .nilIface]
  | .sres s => .tuple #[.int .i64 ((x.str s).size : Int), .nilIface]
def isBb : Ab → Bool
  | .has _ => true
  | .cmp _ _ => true
  | _ => false
def reOfb : E Ab → Option RE
  | .atom (.re x) => some x
  | .lit (.int .i32 c) => some (.cst c)
  | _ => none
abbrev T2 := Option (E Ab)
def bSlice (f : Fb) (lo hi mx : Option Operand) (es : List (E Ab)) : T2 :=
  match lo, hi, mx with
  | some _, none, none => (match es with
    | [.atom (.str .K), .atom .idx] => bif f.neg then none else some (.atom (.str .khi))
    | [.atom (.str .S), .atom .pos] => some (.atom .tail)
    | _ => none)
  | none, some _, none => (match es with
    | [.atom (.str .K), .atom .idx] => bif f.neg then none else some (.atom (.str .klo))
    | _ => none)
  | some _, some _, none => (match es with
    | [.atom (.str .S), .atom .pos, .atom .pos3] => bif f.near then none else some (.atom .sub3)
    | [.atom (.str .S), .atom .pos, .atom .posw] => some (.atom (.str .subw))
    | _ => none)
  | _, _, _ => none
def bBin3 (f : Fb) (op : BinOp) (es : List (E Ab)) : T2 :=
  match op with
  | .eql => (match es with
    | [.atom .idx, .lit (.int .i64 (-1))] => some (.lit (.bool f.neg))
    | _ => none)
  | .gtr => (match es with
    | [.atom .pos3, .atom (.len .S)] => some (.lit (.bool f.near))
    | _ => none)
  | .add => (match es with
    | [.atom (.len .K), .atom (.len .P)] => some (.atom .lkp)
    | [.atom .lkp, .atom (.len .U)] => some (.atom .lkpu)
    | [.atom .pos, .lit (.int .i64 3)] => some (.atom .pos3)
    | [.atom .pos, .atom .dwid] => some (.atom .posw)
    | _ => none)
  | _ => none
def bBin9 (f : Fb) (op : BinOp) (es : List (E Ab)) : T2 :=
  match op with
  | .neq => (match es with
    | [.atom .sub3, .lit (.string t)] => bif !f.near && t.data.toList == [239, 191, 189] then some (.lit (.bool f.b3)) else none
    | _ => none)
  | _ => none
def bBin21 (op : BinOp) : List (E Ab) → T2
  | [.atom (.re .r), .lit (.int .i32 c)] => match op with
    | .eql => some (.atom (.cmp .eq c))
    | .leq => some (.atom (.cmp .le c))
    | .geq => some (.atom (.cmp .ge c))
    | .gtr => some (.atom (.cmp .gt c))
    | .add => some (.atom (.re (.add c)))
    | .sub => some (.atom (.re (.sub c)))
    | _ => none
  | [.lit (.int .i32 c), .atom (.re .r)] => match op with
    | .add => some (.atom (.re (.add c)))
    | _ => none
  | _ => none
def bExtract (i : Nat) : List (E Ab) → T2
  | [.atom .dtup] => bif Nat.beq i 0 then some (.atom .drune) else bif Nat.beq i 1 then some (.atom .dwid) else none
  | [.atom .nxt] => bif Nat.beq i 0 then some (.lit (.bool true)) else bif Nat.beq i 1 then some (.atom .pos) else bif Nat.beq i 2 then some (.atom (.re .r)) else none
  | _ => none
def bLen (ats : Array TypeId) : List (E Ab) → T2
  | [.atom (.str s)] => match ats.toList with
    | [t] => bif Nat.beq t 9 then some (.atom (.len s)) else none
    | _ => none
  | _ => none
def pureB (f : Fb) (o : Op) (es : List (E Ab)) : T2 :=
  match o with
  | .load t _ => bif Nat.beq t 43 then (match es with
    | [.atom .mptr] => some (.atom .mask)
    | _ => none) else none
  | .slice t _ lo hi mx => bif Nat.beq t 9 then bSlice f lo hi mx es else none
  | .binOp op t _ _ t2 => bif Nat.beq t t2 then (bif Nat.beq t 3 then bBin3 f op es else bif Nat.beq t 9 then bBin9 f op es else bif Nat.beq t 21 then bBin21 op es else none) else none
  | .extract _ i => bExtract i es
  | .makeInterface t _ => bif Nat.beq t 79 then (match es with
    | [.atom .buf] => some (.atom .ifc)
    | _ => none) else none
  | .call c => match c.callee with
    | .builtin .len => bLen c.argTypes es
    | _ => none
  | _ => none
def cstOk : RE → Bool
  | .cst c => decide (-2147483648 ≤ c) && decide (c ≤ 2147483647)
  | _ => true
def callB (fl : Fb) (o : Op) (es : List (E Ab)) : Option (E Ab × List Ef) :=
  match o with
  | .call c => match c.callee with
    | .value (.func f) => (match es with
      | [.atom .mask, .lit (.int .u64 b)] => bif Nat.beq f 56 then some (.atom (.has b), []) else none
      | [.atom .tail] => bif Nat.beq f 57 then some (.atom .dtup, []) else none
      | [.atom .buf, .atom .lkpu] => bif fl.fresh && Nat.beq f 61 then some (.lit (.tuple #[]), [.gr]) else none
      | [.atom .buf, .atom (.str s)] => bif Nat.beq f 62 then some (.atom (.sres s), [.st s]) else none
      | [.atom .ifc, .atom (.str .subw)] => bif fl.bad && Nat.beq f 64 then some (.lit (.tuple #[]), [.qt]) else none
      | [.atom .buf, e] => bif Nat.beq f 63 then (match reOfb e with
        | some x => bif cstOk x then some (.atom (.wres x), [.rn x]) else none
        | none => none) else none
      | _ => none)
    | _ => none
  | _ => none
def limB (fl : Fb) (tr : List Ef) : List Ef → Bool
  | [] => true
  | [.gr] => tr.isEmpty
  | _ => Nat.ble tr.length 4 && !(fl.fresh && tr.isEmpty)
def rulesB (fl : Fb) (n : Nat) : Rules Ab Ef :=
  ⟨fun o es => match pureB fl o es with
    | some e => some (e, [])
    | none => callB fl o es, fun _ _ => none, isBb, n, limB fl⟩
/-- What must be so of the strings for the rules. -/
structure OkB (x : Cb) : Prop where
  mxK : x.K.size ≤ 17592186044416
  mxP : x.P.size ≤ 17592186044416
  mxU : x.U.size ≤ 17592186044416
  mxS : x.S.size ≤ 17592186044416
  neg : x.fl.neg = (x.ix == -1)
  ix : x.fl.neg = false → 0 ≤ x.ix ∧ x.ix ≤ x.K.size
  pos : x.pos ≤ x.S.size
  near : x.fl.near = decide (x.S.size < x.pos + 3)
  b3 : x.fl.near = false → x.fl.b3 = !((x.S.extract x.pos (x.pos + 3)).toList == [239, 191, 189])
  bad : x.fl.bad = true → x.str .subw = ⟨#[x.c]⟩
  fresh : x.fl.fresh = true → 0 < x.K.size + x.P.size + x.U.size
  r : -2147483648 ≤ x.r ∧ x.r ≤ 2147483647
theorem Cb.d_le (x : Cb) (hx : OkB x) : x.pos + x.d.2 ≤ x.S.size := by
  have h := Lib.decodeGo_le_size (x.S.extract x.pos x.S.size)
  have hp := hx.pos
  have : (x.S.extract x.pos x.S.size).size = x.S.size - x.pos := by rw [ByteArray.size_extract]; omega
  unfold Cb.d
  omega
theorem Cb.str_le (x : Cb) (hx : OkB x) : ∀ s, (x.str s).size ≤ 17592186044416 := by
  intro s
  have := hx.mxK; have := hx.mxP; have := hx.mxU; have := hx.mxS
  cases s with
  | K => assumption
  | P => assumption
  | U => assumption
  | S => assumption
  | klo => show (x.K.extract 0 x.ix.toNat).size ≤ _; rw [ByteArray.size_extract]; omega
  | khi => show (x.K.extract x.ix.toNat x.K.size).size ≤ _; rw [ByteArray.size_extract]; omega
  | subw => show (x.S.extract x.pos (x.pos + x.d.2)).size ≤ _; rw [ByteArray.size_extract]; omega
section
variable {a : Act} {w : World} {dst : Option Nat} {ty : TypeId} {pos : String} {af : Array Edge} {gd : Option (Nat × Bool)} {x y z : Operand}
theorem r_gtr64 {n c : Int} (h1 : a.eval x = .int .i64 n) (h2 : a.eval y = .int .i64 c) : (execOp a.eval ⟨dst, .binOp .gtr 3 x y 3, ty, pos, af, gd⟩).run Tryd.prog w = .ok (.value (.bool (decide (n > c)))) w := by
  unfold execOp
  dsimp only
  rw [h1, h2]
  go_simp
theorem r_mkif {v : Value} (h1 : a.eval x = v) : (execOp a.eval ⟨dst, .makeInterface 79 x, ty, pos, af, gd⟩).run Tryd.prog w = .ok (.value (.iface 79 v)) w := by
  unfold execOp
  dsimp only
  rw [h1]
  go_simp
theorem r_leq32 {n c : Int} (h1 : a.eval x = .int .i32 n) (h2 : a.eval y = .int .i32 c) : (execOp a.eval ⟨dst, .binOp .leq 21 x y 21, ty, pos, af, gd⟩).run Tryd.prog w = .ok (.value (.bool (decide (n ≤ c)))) w := by
  unfold execOp
  dsimp only
  rw [h1, h2]
  go_simp
theorem r_geq32 {n c : Int} (h1 : a.eval x = .int .i32 n) (h2 : a.eval y = .int .i32 c) : (execOp a.eval ⟨dst, .binOp .geq 21 x y 21, ty, pos, af, gd⟩).run Tryd.prog w = .ok (.value (.bool (decide (n ≥ c)))) w := by
  unfold execOp
  dsimp only
  rw [h1, h2]
  go_simp
theorem r_gtr32 {n c : Int} (h1 : a.eval x = .int .i32 n) (h2 : a.eval y = .int .i32 c) : (execOp a.eval ⟨dst, .binOp .gtr 21 x y 21, ty, pos, af, gd⟩).run Tryd.prog w = .ok (.value (.bool (decide (n > c)))) w := by
  unfold execOp
  dsimp only
  rw [h1, h2]
  go_simp
theorem r_sub32 {n c : Int} (h1 : a.eval x = .int .i32 n) (h2 : a.eval y = .int .i32 c) : (execOp a.eval ⟨dst, .binOp .sub 21 x y 21, ty, pos, af, gd⟩).run Tryd.prog w = .ok (.value (.int .i32 (IntKind.i32.wrap (n - c)))) w := by
  unfold execOp
  dsimp only
  rw [h1, h2]
  go_simp
end
theorem pureB_run (x : Cb) (hx : OkB x) {w : World} (hm : w.cell? x.mp = some (.int .u64 x.m)) (o : Oper) {es : List (E Ab)} {e : E Ab} {xs : List Operand} (h : pureB x.fl o.op es = some e) (hxs : opnds o.op = some xs) (a : Act) (he : xs.map a.eval = es.map (E.val x.V)) :
    (execOp a.eval o).run Tryd.prog w = .ok (.value (e.val x.V)) w := by
  have hK := hx.mxK
  have hP := hx.mxP
  have hU := hx.mxU
  have hS := hx.mxS
  have hd := x.d_le hx
  have hpo := hx.pos
  obtain ⟨dst, op, ty, pos, af, gd⟩ := o
  simp only at h hxs
  cases op with
  | load t y =>
    simp only [pureB] at h
    cases ht : Nat.beq t 43 with
    | false => rw [ht] at h; cases h
    | true =>
      obtain rfl := beq_t ht
      rw [ht] at h
      simp only [cond_true] at h
      split at h
      · cases h; cases hxs
        simp only [List.map_cons, List.map_nil, List.cons.injEq, and_true] at he
        exact r_load he hm
      · cases h
  | slice t y lo hi mx =>
    simp only [pureB] at h
    cases ht : Nat.beq t 9 with
    | false => rw [ht] at h; cases h
    | true =>
      obtain rfl := beq_t ht
      rw [ht] at h
      simp only [cond_true] at h
      simp only [opnds, Option.some.injEq] at hxs
      subst hxs
      unfold bSlice at h
      split at h
      · simp only [optL, List.append_nil, List.cons_append, List.nil_append] at he
        split at h
        · simp only [List.map_cons, List.map_nil, List.cons.injEq, and_true] at he
          cases hl : x.fl.neg with
          | true => rw [hl] at h; cases h
          | false =>
            rw [hl] at h; cases h
            have hi := hx.ix hl
            have h2 := he.2
            have e1 : x.ix = ((x.ix.toNat : Nat) : Int) := by omega
            simp only [E.val, Cb.V] at h2
            rw [e1] at h2
            exact r_slice_lo he.1 h2 (by omega)
        · simp only [List.map_cons, List.map_nil, List.cons.injEq, and_true] at he
          cases h
          exact r_slice_lo he.1 he.2 hpo
        · cases h
      · simp only [optL, List.append_nil, List.cons_append, List.nil_append] at he
        split at h
        · simp only [List.map_cons, List.map_nil, List.cons.injEq, and_true] at he
          cases hl : x.fl.neg with
          | true => rw [hl] at h; cases h
          | false =>
            rw [hl] at h; cases h
            have hi := hx.ix hl
            have h2 := he.2
            have e1 : x.ix = ((x.ix.toNat : Nat) : Int) := by omega
            simp only [E.val, Cb.V] at h2
            rw [e1] at h2
            exact r_slice_hi he.1 h2 (by omega)
        · cases h
      · simp only [optL, List.append_nil, List.cons_append, List.nil_append] at he
        split at h
        · simp only [List.map_cons, List.map_nil, List.cons.injEq, and_true] at he
          cases hl : x.fl.near with
          | true => rw [hl] at h; cases h
          | false =>
            rw [hl] at h; cases h
            have hn := hx.near
            rw [hl] at hn
            have := of_decide_eq_false hn.symm
            exact r_slice_both he.1 he.2.1 he.2.2 (by omega) (by omega)
        · simp only [List.map_cons, List.map_nil, List.cons.injEq, and_true] at he
          cases h
          exact r_slice_both he.1 he.2.1 he.2.2 (by omega) hd
        · cases h
      · cases h
  | binOp op t u v t2 =>
    simp only [pureB] at h
    cases ht : Nat.beq t t2 with
    | false => rw [ht] at h; cases h
    | true =>
      obtain rfl := beq_t ht
      rw [ht] at h
      simp only [cond_true] at h
      cases hxs
      cases h3 : Nat.beq t 3 with
      | true =>
        obtain rfl := beq_t h3
        rw [h3] at h
        simp only [cond_true] at h
        unfold bBin3 at h
        split at h
        · split at h
          · simp only [List.map_cons, List.map_nil, List.cons.injEq, and_true] at he
            cases h
            have := r_eql64 (w := w) (dst := dst) (ty := ty) (pos := pos) (af := af) (gd := gd) he.1 he.2
            rw [this]
            simp only [E.val]
            rw [hx.neg]
          · cases h
        · split at h
          · simp only [List.map_cons, List.map_nil, List.cons.injEq, and_true] at he
            cases h
            have := r_gtr64 (w := w) (dst := dst) (ty := ty) (pos := pos) (af := af) (gd := gd) he.1 he.2
            rw [this]
            simp only [E.val]
            rw [hx.near]
            have : (((x.pos + 3 : Nat) : Int) > ((x.str .S).size : Int)) = (x.S.size < x.pos + 3) := by
              show (((x.pos + 3 : Nat) : Int) > (x.S.size : Int)) = _
              apply propext
              constructor <;> intro h <;> omega
            simp only [this]
          · cases h
        · split at h
          · simp only [List.map_cons, List.map_nil, List.cons.injEq, and_true] at he
            cases h
            have := r_add64 (w := w) (dst := dst) (ty := ty) (pos := pos) (af := af) (gd := gd) he.1 he.2
            rw [this]
            simp only [E.val, Cb.V, Cb.str]
            rw [i64_id (by omega) (by omega)]
            rfl
          · simp only [List.map_cons, List.map_nil, List.cons.injEq, and_true] at he
            cases h
            have := r_add64 (w := w) (dst := dst) (ty := ty) (pos := pos) (af := af) (gd := gd) he.1 he.2
            rw [this]
            simp only [E.val, Cb.V, Cb.str]
            rw [i64_id (by omega) (by omega)]
            rfl
          · simp only [List.map_cons, List.map_nil, List.cons.injEq, and_true] at he
            cases h
            have := r_add64 (w := w) (dst := dst) (ty := ty) (pos := pos) (af := af) (gd := gd) he.1 he.2
            rw [this]
            simp only [E.val, Cb.V, Cb.str]
            rw [i64_id (by omega) (by omega)]
            rfl
          · simp only [List.map_cons, List.map_nil, List.cons.injEq, and_true] at he
            cases h
            have := r_add64 (w := w) (dst := dst) (ty := ty) (pos := pos) (af := af) (gd := gd) he.1 he.2
            rw [this]
            simp only [E.val, Cb.V, Cb.str]
            rw [i64_id (by omega) (by omega)]
            rfl
          · cases h
        · cases h
      | false =>
        rw [h3] at h
        simp only [cond_false] at h
        cases h9 : Nat.beq t 9 with
        | true =>
          obtain rfl := beq_t h9
          rw [h9] at h
          simp only [cond_true] at h
          unfold bBin9 at h
          split at h
          · split at h
            · rename_i s
              simp only [List.map_cons, List.map_nil, List.cons.injEq, and_true] at he
              cases hc : !x.fl.near && s.data.toList == [239, 191, 189] with
              | false => rw [hc] at h; cases h
              | true =>
                rw [hc] at h
                cases h
                simp only [Bool.and_eq_true, Bool.not_eq_true', beq_iff_eq] at hc
                have := r_neqs (w := w) (dst := dst) (ty := ty) (pos := pos) (af := af) (gd := gd) he.1 he.2
                rw [this]
                simp only [E.val]
                rw [hx.b3 hc.1, tl_eq s, hc.2]
            · cases h
          · cases h
        | false =>
          rw [h9] at h
          simp only [cond_false] at h
          cases h21 : Nat.beq t 21 with
          | false => rw [h21] at h; cases h
          | true =>
            obtain rfl := beq_t h21
            rw [h21] at h
            simp only [cond_true] at h
            unfold bBin21 at h
            split at h
            · simp only [List.map_cons, List.map_nil, List.cons.injEq, and_true] at he
              split at h
              · cases h; exact r_eql32 he.1 he.2
              · cases h; exact r_leq32 he.1 he.2
              · cases h; exact r_geq32 he.1 he.2
              · cases h; exact r_gtr32 he.1 he.2
              · cases h; exact r_add32 he.1 he.2
              · cases h; exact r_sub32 he.1 he.2
              · cases h
            · simp only [List.map_cons, List.map_nil, List.cons.injEq, and_true] at he
              split at h
              · cases h
                have := r_add32 (w := w) (dst := dst) (ty := ty) (pos := pos) (af := af) (gd := gd) he.1 he.2
                rw [this]
                simp only [E.val, Cb.V, RE.int]
                rw [Int.add_comm]
              · cases h
            · cases h
  | extract y i =>
    simp only [pureB] at h
    cases hxs
    unfold bExtract at h
    split at h
    · simp only [List.map_cons, List.map_nil, List.cons.injEq, and_true] at he
      cases h0 : Nat.beq i 0 with
      | true =>
        obtain rfl := beq_t h0
        rw [h0] at h
        cases h
        exact r_extract he rfl
      | false =>
        rw [h0] at h
        simp only [cond_false] at h
        cases h1 : Nat.beq i 1 with
        | true =>
          obtain rfl := beq_t h1
          rw [h1] at h
          cases h
          exact r_extract he rfl
        | false => rw [h1] at h; cases h
    · simp only [List.map_cons, List.map_nil, List.cons.injEq, and_true] at he
      cases h0 : Nat.beq i 0 with
      | true =>
        obtain rfl := beq_t h0
        rw [h0] at h
        cases h
        exact r_extract he rfl
      | false =>
        rw [h0] at h
        simp only [cond_false] at h
        cases h1 : Nat.beq i 1 with
        | true =>
          obtain rfl := beq_t h1
          rw [h1] at h
          cases h
          exact r_extract he rfl
        | false =>
          rw [h1] at h
          simp only [cond_false] at h
          cases h2 : Nat.beq i 2 with
          | true =>
            obtain rfl := beq_t h2
            rw [h2] at h
            cases h
            exact r_extract he rfl
          | false => rw [h2] at h; cases h
    · cases h
  | makeInterface t y =>
    simp only [pureB] at h
    cases ht : Nat.beq t 79 with
    | false => rw [ht] at h; cases h
    | true =>
      obtain rfl := beq_t ht
      rw [ht] at h
      simp only [cond_true] at h
      split at h
      · cases h; cases hxs
        simp only [List.map_cons, List.map_nil, List.cons.injEq, and_true] at he
        exact r_mkif he
      · cases h
  | call c =>
    simp only [pureB] at h
    split at h
    · rename_i hcal
      simp only [opnds, Option.some.injEq] at hxs
      subst hxs
      unfold bLen at h
      split at h
      · rename_i s
        split at h
        · rename_i t hat
          cases ht : Nat.beq t 9 with
          | false => rw [ht] at h; cases h
          | true =>
            obtain rfl := beq_t ht
            rw [ht] at h
            cases h
            obtain ⟨u, hargs, h3⟩ := args_one he
            obtain ⟨cal, args, ats⟩ := c
            obtain ⟨la⟩ := ats
            simp only at hcal hargs hat
            subst hcal hargs hat
            exact r_len (ats := #[]) h3 (Nat.le_trans (x.str_le hx s) (by decide))
        · cases h
      · cases h
    · cases h
  | _ => simp [pureB] at h
end Go.Proofs.YtonmnpmklkbioaaDoor.Sy
/- The rules over the buffer are sound. -/
namespace Go.Proofs.YtonmnpmklkbioaaDoor.Sy
open Go.RowKit Go.Proofs.YtonmnpmklkbioaaDoorW.PrintWords
set_option linter.unusedVariables false
set_option linter.unusedSimpArgs false
def Cb.eb (x : Cb) : Ef → List UInt8
  | .gr => []
  | .rn y => Lib.encodeRune (y.int x.r)
  | .st s => (x.str s).data.toList
  | .qt => (quoteByte x.c).data.toList
def Cb.bytes (x : Cb) (tr : List Ef) : List UInt8 := (tr.map x.eb).flatten
theorem Cb.bytes_app (x : Cb) (tr : List Ef) (e : Ef) : x.bytes (tr ++ [e]) = x.bytes tr ++ x.eb e := by
  simp [Cb.bytes]
theorem Cb.eb_le (x : Cb) (hx : OkB x) (e : Ef) : (x.eb e).length ≤ 17592186044416 := by
  cases e with
  | gr => exact Nat.zero_le _
  | rn y => exact Nat.le_trans (rune_le _) (by decide)
  | st s =>
    have h := x.str_le hx s
    have h0 : (x.str s).data.toList.length = (x.str s).size := Array.length_toList
    show (x.str s).data.toList.length ≤ _
    omega
  | qt =>
    have h := quoteByte_size x.c
    have h0 : (quoteByte x.c).data.toList.length = (quoteByte x.c).size := Array.length_toList
    show (quoteByte x.c).data.toList.length ≤ _
    omega
theorem Cb.bytes_le (x : Cb) (hx : OkB x) : ∀ tr : List Ef, (x.bytes tr).length ≤ tr.length * 17592186044416
  | [] => Nat.zero_le _
  | e :: tr => by
    have h1 := x.eb_le hx e
    have h2 := x.bytes_le hx tr
    have h3 : x.bytes (e :: tr) = x.eb e ++ x.bytes tr := by simp [Cb.bytes]
    rw [h3, List.length_append, List.length_cons]
    omega
/-- The world: the buffer holds what was written; an iterator stays. -/
structure Rw (x : Cb) (w0 : World) (acc : List UInt8) (ip : Option Nat) (tr : List Ef) (w : World) : Prop where
  low : Below w0.heap.size w0 w
  buf : if (x.fl.fresh && tr.isEmpty) = true then w.heap[x.b]? = some (.cells #[.slice none 0 0, .int .i64 0, .int .i8 0] 71 (0, 0)) else Lib.IsBuffer 71 5 w0.heap.size x.b (Lib.byteCells (acc ++ x.bytes tr)) w
  it : ∀ p, ip = some p → x.it ≠ x.b ∧ w.heap[x.it]? = some (.stringIter x.S p)
theorem Rw.old {x : Cb} {w0 : World} {acc : List UInt8} {ip : Option Nat} {tr : List Ef} {w w' : World} (h : Rw x w0 acc ip tr w) (hb : Below w.heap.size w w') : Rw x w0 acc ip tr w' where
  low := h.low.trans (hb.mono h.low.size)
  buf := by
    have hbuf := h.buf
    split at hbuf
    · rename_i hc
      rw [if_pos hc]
      rw [hb.block x.b (Lib.lt_of_heap hbuf)]
      exact hbuf
    · rename_i hc
      rw [if_neg hc]
      exact hbuf.old hb
  it := fun p hp => ⟨(h.it p hp).1, by rw [hb.block x.it (Lib.lt_of_heap (h.it p hp).2)]; exact (h.it p hp).2⟩
theorem Rw.drewN {x : Cb} {w0 : World} {acc : List UInt8} {ip : Option Nat} {tr : List Ef} {w : World} (h : Rw x w0 acc ip tr w) (n : Nat) : Rw x w0 acc ip tr (w.drewN n) :=
  ⟨below_drewN h.low n, h.buf, h.it⟩
theorem Rw.wrote {x : Cb} {w0 : World} {acc : List UInt8} {ip : Option Nat} {tr : List Ef} {e : Ef} {w w' : World} (h : Rw x w0 acc ip tr w) (hI : Lib.IsBuffer 71 5 w0.heap.size x.b (Lib.byteCells (acc ++ x.bytes tr) ++ Lib.byteCells (x.eb e)) w')
    (hb : Below w0.heap.size w w') (hk : Lib.OthersKept 5 (some x.b) w w') : Rw x w0 acc ip (tr ++ [e]) w' where
  low := h.low.trans hb
  buf := by
    rw [if_neg (by simp)]
    rw [x.bytes_app, ← List.append_assoc, Lib.byteCells_append]
    exact hI
  it := fun p hp => ⟨(h.it p hp).1, hk.iter (h.it p hp).2 (h.it p hp).1⟩
section
variable {a : Act} {w : World} {next : Act → World → Prop} {Q : Exit → Act → World → Prop} {dst : Option Nat} {ty : TypeId} {pos : String} {af : Array Edge} {gd : Option (Nat × Bool)} {u v : Operand} {ats : Array TypeId}
theorem s_call1 {f : Nat} {p : Value} {val : Value} {T : World → Prop} (hen : ∀ (args : Array Value) (w : World), (callFunc f args).run Tryd.prog w = .ok (.enter f args) w) (h1 : a.eval u = p) (hc : Calls Tryd.prog f #[p] w fun e w' => e = .returned val ∧ T w') (h : ∀ w', T w' → next (a.put dst val) w') :
    Oper.wp Tryd.prog ⟨dst, .call { callee := .value (.func f), args := #[u], argTypes := ats }, ty, pos, af, gd⟩ a w next Q := by
  unfold Oper.wp execOp
  dsimp only
  simp only [resolve, invoke, List.map_toArray, List.map_cons, List.map_nil, h1]
  go_simp
  refine hc.mono ?_
  rintro e w' ⟨rfl, ht⟩
  exact h w' ht
theorem s_call2 {f : Nat} {p q : Value} {val : Value} {T : World → Prop} (hen : ∀ (args : Array Value) (w : World), (callFunc f args).run Tryd.prog w = .ok (.enter f args) w) (h1 : a.eval u = p) (h2 : a.eval v = q) (hc : Calls Tryd.prog f #[p, q] w fun e w' => e = .returned val ∧ T w') (h : ∀ w', T w' → next (a.put dst val) w') :
    Oper.wp Tryd.prog ⟨dst, .call { callee := .value (.func f), args := #[u, v], argTypes := ats }, ty, pos, af, gd⟩ a w next Q := by
  unfold Oper.wp execOp
  dsimp only
  simp only [resolve, invoke, List.map_toArray, List.map_cons, List.map_nil, h1, h2]
  go_simp
  refine hc.mono ?_
  rintro e w' ⟨rfl, ht⟩
  exact h w' ht
end
theorem enter61 (args : Array Value) (w : World) : (callFunc 61 args).run Tryd.prog w = .ok (.enter 61 args) w := by kernel_rfl
theorem enter62 (args : Array Value) (w : World) : (callFunc 62 args).run Tryd.prog w = .ok (.enter 62 args) w := by kernel_rfl
theorem enter63 (args : Array Value) (w : World) : (callFunc 63 args).run Tryd.prog w = .ok (.enter 63 args) w := by kernel_rfl
theorem enter64 (args : Array Value) (w : World) : (callFunc 64 args).run Tryd.prog w = .ok (.enter 64 args) w := by kernel_rfl
theorem RE.i32 {x : Cb} (hx : OkB x) (y : RE) (hy : ∀ c, y = .cst c → -2147483648 ≤ c ∧ c ≤ 2147483647) : -2147483648 ≤ y.int x.r ∧ y.int x.r ≤ 2147483647 := by
  have hr := hx.r
  have hw : ∀ z : Int, -2147483648 ≤ IntKind.i32.wrap z ∧ IntKind.i32.wrap z ≤ 2147483647 := by
    intro z
    unfold IntKind.wrap
    simp [IntKind.bits, IntKind.signed]
    omega
  cases y with
  | r => exact hr
  | add c => exact hw _
  | sub c => exact hw _
  | cst c => exact hy c rfl
theorem write63 {x : Cb} (hx : OkB x) {w0 w : World} {acc : List UInt8} {ip : Option Nat} {tr : List Ef} (hacc : acc.length ≤ 35184372088832) (hl : tr.length ≤ 4) (hf : ¬ (x.fl.fresh && tr.isEmpty) = true) (hR : Rw x w0 acc ip tr w) (y : RE) (hy : cstOk y = true) :
    Calls Tryd.prog 63 #[.pointer (some ⟨x.b, 0, none⟩), .int .i32 (y.int x.r)] w fun e w' => e = .returned (x.V (.wres y)) ∧ Rw x w0 acc ip (tr ++ [.rn y]) w' := by
  have hb := hR.buf
  rw [if_neg hf] at hb
  have hbl := x.bytes_le hx tr
  have hr := RE.i32 hx y (by
    intro c hc
    subst hc
    simp only [cstOk, Bool.and_eq_true, decide_eq_true_eq] at hy
    exact hy)
  refine (Any.Buffer_WriteRune_k Laid.L_n5 w0.heap.size x.b (Lib.byteCells (acc ++ x.bytes tr)) (y.int x.r) hr.1 hr.2 w hb hR.low.size (Lib.byteCells_one _) ?_).mono ?_
  · rw [Lib.byteCells_length, List.length_append]; omega
  · rintro e w' ⟨rfl, h2, h3, h4⟩
    refine ⟨rfl, hR.wrote ?_ h3 h4⟩
    show Lib.IsBuffer 71 5 w0.heap.size x.b (Lib.byteCells (acc ++ x.bytes tr) ++ Lib.byteCells (Lib.encodeRune (y.int x.r))) w'
    rw [Lib.byteCells_encodeRune]
    exact h2
theorem write62 {x : Cb} (hx : OkB x) {w0 w : World} {acc : List UInt8} {ip : Option Nat} {tr : List Ef} (hacc : acc.length ≤ 35184372088832) (hl : tr.length ≤ 4) (hf : ¬ (x.fl.fresh && tr.isEmpty) = true) (hR : Rw x w0 acc ip tr w) (s : Sb) :
    Calls Tryd.prog 62 #[.pointer (some ⟨x.b, 0, none⟩), .string (x.str s)] w fun e w' => e = .returned (x.V (.sres s)) ∧ Rw x w0 acc ip (tr ++ [.st s]) w' := by
  have hb := hR.buf
  rw [if_neg hf] at hb
  have hbl := x.bytes_le hx tr
  have hs := x.str_le hx s
  refine (Any.Buffer_WriteString_k Laid.L_n178 w0.heap.size x.b (Lib.byteCells (acc ++ x.bytes tr)) (x.str s) w hb hR.low.size (Lib.byteCells_one _) ?_).mono ?_
  · rw [Lib.byteCells_length, List.length_append]; omega
  · rintro e w' ⟨rfl, h2, h3, h4⟩
    exact ⟨rfl, hR.wrote h2 h3 h4⟩
theorem write64 {x : Cb} (hx : OkB x) {w0 w : World} {acc : List UInt8} {ip : Option Nat} {tr : List Ef} (hacc : acc.length ≤ 35184372088832) (hl : tr.length ≤ 4) (hf : ¬ (x.fl.fresh && tr.isEmpty) = true) (hbad : x.fl.bad = true) (hR : Rw x w0 acc ip tr w) :
    Calls Tryd.prog 64 #[.iface 79 (.pointer (some ⟨x.b, 0, none⟩)), .string (x.str .subw)] w fun e w' => e = .returned (.tuple #[]) ∧ Rw x w0 acc ip (tr ++ [.qt]) w' := by
  have hb := hR.buf
  rw [if_neg hf] at hb
  have hbl := x.bytes_le hx tr
  rw [hx.bad hbad]
  refine (quoted64 w0.heap.size x.b (Lib.byteCells (acc ++ x.bytes tr)) x.c w hb hR.low.size (Lib.byteCells_one _) ?_).mono ?_
  · rw [Lib.byteCells_length, List.length_append]; omega
  · rintro e w' ⟨rfl, h2, h3, h4⟩
    exact ⟨rfl, hR.wrote h2 h3 h4⟩
theorem grow_61 {x : Cb} (hx : OkB x) {w0 w : World} {acc : List UInt8} {tr : List Ef} (hfr : x.fl.fresh = true) (hacc : acc = []) (hB : w0.heap.size ≤ x.b) (hl : tr.isEmpty = true) {ip : Option Nat} (hip : ip = none) (hR : Rw x w0 acc ip tr w) :
    Calls Tryd.prog 61 #[.pointer (some ⟨x.b, 0, none⟩), x.V .lkpu] w fun e w' => e = .returned (.tuple #[]) ∧ Rw x w0 acc ip (tr ++ [.gr]) w' := by
  have hb := hR.buf
  rw [if_pos (by rw [hfr, hl]; rfl)] at hb
  have := hx.mxK; have := hx.mxP; have := hx.mxU
  have h0 := hx.fresh hfr
  refine (grow61 w0.heap.size x.b (x.K.size + x.P.size + x.U.size) w hB hR.low.size hb h0 (by omega)).mono ?_
  rintro e w' ⟨rfl, h2, h3⟩
  refine ⟨rfl, hR.low.trans h3, ?_, fun p hp => by rw [hip] at hp; cases hp⟩
  rw [if_neg (by simp)]
  have ht : tr = [] := List.isEmpty_iff.1 hl
  subst ht hacc
  exact h2
theorem reOfb_val {x : Cb} {e : E Ab} {y : RE} (h : reOfb e = some y) : e.val x.V = .int .i32 (y.int x.r) := by
  cases e with
  | lit v =>
    cases v with
    | int k c =>
      cases k <;> simp [reOfb] at h
      subst h
      rfl
    | _ => simp [reOfb] at h
  | atom t =>
    cases t <;> simp [reOfb] at h
    subst h
    rfl
set_option maxHeartbeats 1000000 in
set_option maxRecDepth 100000 in
theorem soundB (n : Nat) (x : Cb) (hx : OkB x) (w0 : World) (hw : WorldOk w0 x.mp x.m) (acc : List UInt8) (hacc : acc.length ≤ 35184372088832) (ip : Option Nat) (hfr : x.fl.fresh = true → acc = [] ∧ ip = none) (hB : w0.heap.size ≤ x.b) : Sound (rulesB x.fl n) Tryd.prog x.V x.B (Rw x w0 acc ip) where
  isB := by
    intro t ht
    cases t <;> first | rfl | cases ht
  quiet := by intro o es e xs h; cases h
  mixed := by kernel_rfl
  drew := fun tr w n h => h.drewN n
  rule := by
    intro o es e f xs h hxs a w tr next Q hlim he hR hn
    have h' : (match pureB x.fl o.op es with
      | some e => some (e, ([] : List Ef))
      | none => callB x.fl o.op es) = some (e, f) := h
    have hlim' : limB x.fl tr f = true := hlim
    split at h'
    · rename_i e2 h2
      cases h'
      have := pureB_run x hx (hw.below hR.low).mask o h2 hxs a he
      unfold Oper.wp
      rw [this]
      exact hn w (by simpa using hR)
    · obtain ⟨dst, op, ty, pos, af, gd⟩ := o
      simp only at h' hxs hn
      cases op with
      | call c =>
        simp only [callB] at h'
        split at h'
        · rename_i fn hcal
          simp only [opnds, Option.some.injEq] at hxs
          subst hxs
          split at h'
          · rename_i b
            cases ht : Nat.beq fn 56 with
            | false => rw [ht] at h'; cases h'
            | true =>
              obtain rfl := beq_t ht
              rw [ht] at h'
              cases h'
              obtain ⟨u, v, hargs, h3, h4⟩ := args_two he
              obtain ⟨cal, args, ats⟩ := c
              simp only at hcal hargs
              subst hcal hargs
              refine s_has h3 h4 (fun w' hd => hn w' ?_)
              obtain ⟨k, rfl⟩ := hd
              rw [List.append_nil]
              exact hR.drewN k
          · cases ht : Nat.beq fn 57 with
            | false => rw [ht] at h'; cases h'
            | true =>
              obtain rfl := beq_t ht
              rw [ht] at h'
              cases h'
              obtain ⟨u, hargs, h3⟩ := args_one he
              obtain ⟨cal, args, ats⟩ := c
              simp only at hcal hargs
              subst hcal hargs
              exact s_dec57 (hw.below hR.low).tabs h3 (fun w' hd => hn w' (by rw [List.append_nil]; exact hR.old hd))
          · cases ht : x.fl.fresh && Nat.beq fn 61 with
            | false => rw [ht] at h'; cases h'
            | true =>
              rw [ht] at h'
              simp only [Bool.and_eq_true] at ht
              obtain ⟨ht1, ht2⟩ := ht
              obtain rfl := beq_t ht2
              cases h'
              obtain ⟨u, v, hargs, h3, h4⟩ := args_two he
              obtain ⟨cal, args, ats⟩ := c
              simp only at hcal hargs
              subst hcal hargs
              exact s_call2 enter61 h3 h4 (grow_61 hx ht1 (hfr ht1).1 hB hlim' (hfr ht1).2 hR) hn
          · rename_i s hpb
            cases ht : Nat.beq fn 62 with
            | false => rw [ht] at h'; cases h'
            | true =>
              obtain rfl := beq_t ht
              rw [ht] at h'
              cases h'
              obtain ⟨u, v, hargs, h3, h4⟩ := args_two he
              obtain ⟨cal, args, ats⟩ := c
              simp only at hcal hargs
              subst hcal hargs
              simp only [limB, Bool.and_eq_true] at hlim'
              exact s_call2 enter62 h3 h4 (write62 hx hacc (Nat.le_of_ble_eq_true hlim'.1) (by intro hc; rw [hc] at hlim'; cases hlim'.2) hR s) hn
          · cases ht : x.fl.bad && Nat.beq fn 64 with
            | false => rw [ht] at h'; cases h'
            | true =>
              rw [ht] at h'
              simp only [Bool.and_eq_true] at ht
              obtain ⟨ht1, ht2⟩ := ht
              obtain rfl := beq_t ht2
              cases h'
              obtain ⟨u, v, hargs, h3, h4⟩ := args_two he
              obtain ⟨cal, args, ats⟩ := c
              simp only at hcal hargs
              subst hcal hargs
              simp only [limB, Bool.and_eq_true] at hlim'
              exact s_call2 enter64 h3 h4 (write64 hx hacc (Nat.le_of_ble_eq_true hlim'.1) (by intro hc; rw [hc] at hlim'; cases hlim'.2) ht1 hR) hn
          · cases ht : Nat.beq fn 63 with
            | false => rw [ht] at h'; cases h'
            | true =>
              obtain rfl := beq_t ht
              rw [ht] at h'
              simp only [cond_true] at h'
              split at h'
              · rename_i y hy
                cases hc : cstOk y with
                | false => rw [hc] at h'; cases h'
                | true =>
                  rw [hc] at h'
                  cases h'
                  obtain ⟨u, v, hargs, h3, h4⟩ := args_two he
                  obtain ⟨cal, args, ats⟩ := c
                  simp only at hcal hargs
                  subst hcal hargs
                  simp only [limB, Bool.and_eq_true] at hlim'
                  exact s_call2 enter63 h3 (h4.trans (reOfb_val hy)) (write63 hx hacc (Nat.le_of_ble_eq_true hlim'.1) (by intro hc; rw [hc] at hlim'; cases hlim'.2) hR y hc) hn
              · cases h'
          · cases h'
        · cases h'
      | _ => simp [callB] at h'
end Go.Proofs.YtonmnpmklkbioaaDoor.Sy
/- Encode's statements from its buffer on, as trees (reckoned). -/
namespace Go.Proofs.YtonmnpmklkbioaaDoor.Sy
open Go.RowKit Go.Proofs.YtonmnpmklkbioaaDoorW.PrintWords
set_option linter.unusedVariables false
set_option linter.unusedSimpArgs false
def unB : Code → Code
  | .block _ c => c
  | .loop c => c
  | c => c
def snd : Code → Code
  | .seq _ b => b
  | c => c
noncomputable def lp35 : Code := unB (unB (nth (sp (e35 19)) 1))
noncomputable def b35 : Code := unB (nth (sp lp35) 2)
noncomputable def r90 : Code := nth (sp b35) 0
noncomputable def body35 : Code := snd b35
def kn0 : Ab → Option Bool
  | .cmp .eq 65533 => some false
  | _ => none
def knF : Ab → Option Bool
  | .cmp o c => some (o.on 65533 c)
  | _ => none
abbrev envL : Env Ab := [(1, .atom (.str .S)), (2, .atom .mptr), (15, .atom (.str .U)), (24, .atom .buf), (25, .atom .pos), (26, .atom (.re .r)), (278, .atom .itp)]
def g20 : DS Ab Ef := (.leaf ⟨.normal, [some (.atom .buf)], [Ef.st Sb.U]⟩)
set_option maxRecDepth 1000000 in
theorem g20_is : (comp0 (rulesB ⟨false, false, false, false, false⟩ 602) (e35 20) [(15, .atom (.str .U)), (24, .atom .buf)]).map (fun d => norm (fun _ => none) (strip1 [24] d)) = some g20 := by kernel_rfl
def hA : List (DS Ab Ef) := [.br (.has (16777216)) (.leaf ⟨.exit 6, [], [Ef.qt]⟩) (.leaf ⟨.exit 6, [], [Ef.st Sb.subw]⟩), .leaf ⟨.normal, [], []⟩, .leaf ⟨.normal, [], []⟩, .leaf ⟨.normal, [], []⟩, .leaf ⟨.normal, [], []⟩, .leaf ⟨.normal, [], []⟩, .leaf ⟨.normal, [], []⟩, .leaf ⟨.normal, [], []⟩, .leaf ⟨.normal, [], []⟩, .leaf ⟨.normal, [], []⟩, .leaf ⟨.normal, [], []⟩, .leaf ⟨.normal, [], []⟩, .leaf ⟨.normal, [], []⟩, .leaf ⟨.normal, [], []⟩, .leaf ⟨.normal, [], []⟩, .leaf ⟨.normal, [], []⟩, .leaf ⟨.normal, [], []⟩, .leaf ⟨.normal, [], []⟩, .leaf ⟨.normal, [], []⟩, .br (.has (65536)) (.leaf ⟨.normal, [], [Ef.rn RE.r]⟩) (.leaf ⟨.normal, [], [Ef.rn RE.r]⟩)]
set_option maxRecDepth 1000000 in
theorem hA_is : (top (rulesB ⟨false, true, false, true, false⟩ 602) body35 envL).map (fun Ds => (Ds.all (allKeep envL) && !Ds.isEmpty, Ds.map (fun d => norm knF (strip [] d)))) = some (true, hA) := by kernel_rfl
def hB : List (DS Ab Ef) := [.br (.has (16777216)) (.leaf ⟨.exit 6, [], [Ef.qt]⟩) (.leaf ⟨.exit 6, [], [Ef.st Sb.subw]⟩), .leaf ⟨.normal, [], []⟩, .leaf ⟨.normal, [], []⟩, .leaf ⟨.normal, [], []⟩, .leaf ⟨.normal, [], []⟩, .leaf ⟨.normal, [], []⟩, .leaf ⟨.normal, [], []⟩, .leaf ⟨.normal, [], []⟩, .leaf ⟨.normal, [], []⟩, .leaf ⟨.normal, [], []⟩, .leaf ⟨.normal, [], []⟩, .leaf ⟨.normal, [], []⟩, .leaf ⟨.normal, [], []⟩, .leaf ⟨.normal, [], []⟩, .leaf ⟨.normal, [], []⟩, .leaf ⟨.normal, [], []⟩, .leaf ⟨.normal, [], []⟩, .leaf ⟨.normal, [], []⟩, .leaf ⟨.normal, [], []⟩, .br (.has (65536)) (.leaf ⟨.normal, [], [Ef.rn RE.r]⟩) (.leaf ⟨.normal, [], [Ef.rn RE.r]⟩)]
set_option maxRecDepth 1000000 in
theorem hB_is : (top (rulesB ⟨false, false, true, true, false⟩ 602) body35 envL).map (fun Ds => (Ds.all (allKeep envL) && !Ds.isEmpty, Ds.map (fun d => norm knF (strip [] d)))) = some (true, hB) := by kernel_rfl
def hC : List (DS Ab Ef) := [.br (.has (16777216)) (.leaf ⟨.normal, [], []⟩) (.leaf ⟨.exit 6, [], [Ef.st Sb.subw]⟩), .leaf ⟨.normal, [], []⟩, .leaf ⟨.normal, [], []⟩, .leaf ⟨.normal, [], []⟩, .leaf ⟨.normal, [], []⟩, .leaf ⟨.normal, [], []⟩, .leaf ⟨.normal, [], []⟩, .leaf ⟨.normal, [], []⟩, .leaf ⟨.normal, [], []⟩, .leaf ⟨.normal, [], []⟩, .leaf ⟨.normal, [], []⟩, .leaf ⟨.normal, [], []⟩, .leaf ⟨.normal, [], []⟩, .leaf ⟨.normal, [], []⟩, .leaf ⟨.normal, [], []⟩, .leaf ⟨.normal, [], []⟩, .leaf ⟨.normal, [], []⟩, .leaf ⟨.normal, [], []⟩, .leaf ⟨.normal, [], []⟩, .br (.has (65536)) (.leaf ⟨.normal, [], [Ef.rn RE.r]⟩) (.leaf ⟨.normal, [], [Ef.rn RE.r]⟩)]
set_option maxRecDepth 1000000 in
theorem hC_is : (top (rulesB ⟨false, false, false, false, false⟩ 602) body35 envL).map (fun Ds => (Ds.all (allKeep envL) && !Ds.isEmpty, Ds.map (fun d => norm knF (strip [] d)))) = some (true, hC) := by kernel_rfl
def h0 : List (DS Ab Ef) := [.br (.cmp Cm.eq (0)) (.leaf ⟨.exit 6, [], [Ef.rn (RE.cst (9216))]⟩) (.br (.cmp Cm.eq (9216)) (.leaf ⟨.exit 6, [], [Ef.rn (RE.cst (8219)), Ef.rn RE.r]⟩) (.br (.cmp Cm.eq (8219)) (.leaf ⟨.exit 6, [], [Ef.rn (RE.cst (8219)), Ef.rn RE.r]⟩) (.leaf ⟨.normal, [], []⟩))), .br (.has (512)) (.br (.cmp Cm.eq (42)) (.leaf ⟨.exit 6, [], [Ef.rn (RE.add (65248))]⟩) (.br (.cmp Cm.eq (65290)) (.leaf ⟨.exit 6, [], [Ef.rn (RE.cst (8219)), Ef.rn RE.r]⟩) (.leaf ⟨.normal, [], []⟩))) (.leaf ⟨.normal, [], []⟩), .br (.has (4)) (.br (.cmp Cm.eq (60)) (.leaf ⟨.exit 6, [], [Ef.rn (RE.add (65248))]⟩) (.br (.cmp Cm.eq (62)) (.leaf ⟨.exit 6, [], [Ef.rn (RE.add (65248))]⟩) (.br (.cmp Cm.eq (65308)) (.leaf ⟨.exit 6, [], [Ef.rn (RE.cst (8219)), Ef.rn RE.r]⟩) (.br (.cmp Cm.eq (65310)) (.leaf ⟨.exit 6, [], [Ef.rn (RE.cst (8219)), Ef.rn RE.r]⟩) (.leaf ⟨.normal, [], []⟩))))) (.leaf ⟨.normal, [], []⟩), .br (.has (67108864)) (.br (.cmp Cm.eq (91)) (.leaf ⟨.exit 6, [], [Ef.rn (RE.add (65248))]⟩) (.br (.cmp Cm.eq (93)) (.leaf ⟨.exit 6, [], [Ef.rn (RE.add (65248))]⟩) (.br (.cmp Cm.eq (65339)) (.leaf ⟨.exit 6, [], [Ef.rn (RE.cst (8219)), Ef.rn RE.r]⟩) (.br (.cmp Cm.eq (65341)) (.leaf ⟨.exit 6, [], [Ef.rn (RE.cst (8219)), Ef.rn RE.r]⟩) (.leaf ⟨.normal, [], []⟩))))) (.leaf ⟨.normal, [], []⟩), .br (.has (134217728)) (.br (.cmp Cm.eq (59)) (.leaf ⟨.exit 6, [], [Ef.rn (RE.add (65248))]⟩) (.br (.cmp Cm.eq (65307)) (.leaf ⟨.exit 6, [], [Ef.rn (RE.cst (8219)), Ef.rn RE.r]⟩) (.leaf ⟨.normal, [], []⟩))) (.leaf ⟨.normal, [], []⟩), .br (.has (268435456)) (.br (.cmp Cm.eq (33)) (.leaf ⟨.exit 6, [], [Ef.rn (RE.add (65248))]⟩) (.br (.cmp Cm.eq (65281)) (.leaf ⟨.exit 6, [], [Ef.rn (RE.cst (8219)), Ef.rn RE.r]⟩) (.leaf ⟨.normal, [], []⟩))) (.leaf ⟨.normal, [], []⟩), .br (.has (256)) (.br (.cmp Cm.eq (63)) (.leaf ⟨.exit 6, [], [Ef.rn (RE.add (65248))]⟩) (.br (.cmp Cm.eq (65311)) (.leaf ⟨.exit 6, [], [Ef.rn (RE.cst (8219)), Ef.rn RE.r]⟩) (.leaf ⟨.normal, [], []⟩))) (.leaf ⟨.normal, [], []⟩), .br (.has (128)) (.br (.cmp Cm.eq (58)) (.leaf ⟨.exit 6, [], [Ef.rn (RE.add (65248))]⟩) (.br (.cmp Cm.eq (65306)) (.leaf ⟨.exit 6, [], [Ef.rn (RE.cst (8219)), Ef.rn RE.r]⟩) (.leaf ⟨.normal, [], []⟩))) (.leaf ⟨.normal, [], []⟩), .br (.has (1024)) (.br (.cmp Cm.eq (124)) (.leaf ⟨.exit 6, [], [Ef.rn (RE.add (65248))]⟩) (.br (.cmp Cm.eq (65372)) (.leaf ⟨.exit 6, [], [Ef.rn (RE.cst (8219)), Ef.rn RE.r]⟩) (.leaf ⟨.normal, [], []⟩))) (.leaf ⟨.normal, [], []⟩), .br (.has (8)) (.br (.cmp Cm.eq (34)) (.leaf ⟨.exit 6, [], [Ef.rn (RE.add (65248))]⟩) (.br (.cmp Cm.eq (65282)) (.leaf ⟨.exit 6, [], [Ef.rn (RE.cst (8219)), Ef.rn RE.r]⟩) (.leaf ⟨.normal, [], []⟩))) (.leaf ⟨.normal, [], []⟩), .br (.has (16)) (.br (.cmp Cm.eq (39)) (.leaf ⟨.exit 6, [], [Ef.rn (RE.add (65248))]⟩) (.br (.cmp Cm.eq (65287)) (.leaf ⟨.exit 6, [], [Ef.rn (RE.cst (8219)), Ef.rn RE.r]⟩) (.leaf ⟨.normal, [], []⟩))) (.leaf ⟨.normal, [], []⟩), .br (.has (32)) (.br (.cmp Cm.eq (96)) (.leaf ⟨.exit 6, [], [Ef.rn (RE.add (65248))]⟩) (.br (.cmp Cm.eq (65344)) (.leaf ⟨.exit 6, [], [Ef.rn (RE.cst (8219)), Ef.rn RE.r]⟩) (.leaf ⟨.normal, [], []⟩))) (.leaf ⟨.normal, [], []⟩), .br (.has (64)) (.br (.cmp Cm.eq (36)) (.leaf ⟨.exit 6, [], [Ef.rn (RE.add (65248))]⟩) (.br (.cmp Cm.eq (65284)) (.leaf ⟨.exit 6, [], [Ef.rn (RE.cst (8219)), Ef.rn RE.r]⟩) (.leaf ⟨.normal, [], []⟩))) (.leaf ⟨.normal, [], []⟩), .br (.has (2)) (.br (.cmp Cm.eq (47)) (.leaf ⟨.exit 6, [], [Ef.rn (RE.add (65248))]⟩) (.br (.cmp Cm.eq (65295)) (.leaf ⟨.exit 6, [], [Ef.rn (RE.cst (8219)), Ef.rn RE.r]⟩) (.leaf ⟨.normal, [], []⟩))) (.leaf ⟨.normal, [], []⟩), .br (.has (8192)) (.br (.cmp Cm.eq (92)) (.leaf ⟨.exit 6, [], [Ef.rn (RE.add (65248))]⟩) (.br (.cmp Cm.eq (65340)) (.leaf ⟨.exit 6, [], [Ef.rn (RE.cst (8219)), Ef.rn RE.r]⟩) (.leaf ⟨.normal, [], []⟩))) (.leaf ⟨.normal, [], []⟩), .br (.has (16384)) (.br (.cmp Cm.eq (13)) (.leaf ⟨.exit 6, [], [Ef.rn (RE.add (9216))]⟩) (.br (.cmp Cm.eq (10)) (.leaf ⟨.exit 6, [], [Ef.rn (RE.add (9216))]⟩) (.br (.cmp Cm.eq (9229)) (.leaf ⟨.exit 6, [], [Ef.rn (RE.cst (8219)), Ef.rn RE.r]⟩) (.br (.cmp Cm.eq (9226)) (.leaf ⟨.exit 6, [], [Ef.rn (RE.cst (8219)), Ef.rn RE.r]⟩) (.leaf ⟨.normal, [], []⟩))))) (.leaf ⟨.normal, [], []⟩), .br (.has (2048)) (.br (.cmp Cm.eq (35)) (.leaf ⟨.exit 6, [], [Ef.rn (RE.add (65248))]⟩) (.br (.cmp Cm.eq (65283)) (.leaf ⟨.exit 6, [], [Ef.rn (RE.cst (8219)), Ef.rn RE.r]⟩) (.leaf ⟨.normal, [], []⟩))) (.leaf ⟨.normal, [], []⟩), .br (.has (4096)) (.br (.cmp Cm.eq (37)) (.leaf ⟨.exit 6, [], [Ef.rn (RE.add (65248))]⟩) (.br (.cmp Cm.eq (65285)) (.leaf ⟨.exit 6, [], [Ef.rn (RE.cst (8219)), Ef.rn RE.r]⟩) (.leaf ⟨.normal, [], []⟩))) (.leaf ⟨.normal, [], []⟩), .br (.has (32768)) (.br (.cmp Cm.eq (127)) (.leaf ⟨.exit 6, [], [Ef.rn (RE.cst (9249))]⟩) (.br (.cmp Cm.eq (9249)) (.leaf ⟨.exit 6, [], [Ef.rn (RE.cst (8219)), Ef.rn RE.r]⟩) (.leaf ⟨.normal, [], []⟩))) (.leaf ⟨.normal, [], []⟩), .br (.has (65536)) (.br (.cmp Cm.ge (1)) (.br (.cmp Cm.le (31)) (.leaf ⟨.exit 6, [], [Ef.rn (RE.add (9216))]⟩) (.br (.cmp Cm.gt (9216)) (.br (.cmp Cm.le (9247)) (.leaf ⟨.exit 6, [], [Ef.rn (RE.cst (8219)), Ef.rn RE.r]⟩) (.leaf ⟨.normal, [], [Ef.rn RE.r]⟩)) (.leaf ⟨.normal, [], [Ef.rn RE.r]⟩))) (.br (.cmp Cm.gt (9216)) (.br (.cmp Cm.le (9247)) (.leaf ⟨.exit 6, [], [Ef.rn (RE.cst (8219)), Ef.rn RE.r]⟩) (.leaf ⟨.normal, [], [Ef.rn RE.r]⟩)) (.leaf ⟨.normal, [], [Ef.rn RE.r]⟩))) (.leaf ⟨.normal, [], [Ef.rn RE.r]⟩)]
set_option maxRecDepth 1000000 in
theorem h0_is : (top (rulesB ⟨false, true, false, false, false⟩ 602) body35 envL).map (fun Ds => (Ds.all (allKeep envL) && !Ds.isEmpty, Ds.map (fun d => norm kn0 (strip [] d)))) = some (true, h0) := by kernel_rfl
set_option maxRecDepth 1000000 in
theorem h1_is : (top (rulesB ⟨false, false, true, false, false⟩ 602) body35 envL).map (fun Ds => (Ds.all (allKeep envL) && !Ds.isEmpty, Ds.map (fun d => norm kn0 (strip [] d)))) = some (true, h0) := by kernel_rfl
set_option maxRecDepth 1000000 in
theorem h2_is : (top (rulesB ⟨false, false, false, false, false⟩ 602) body35 envL).map (fun Ds => (Ds.all (allKeep envL) && !Ds.isEmpty, Ds.map (fun d => norm kn0 (strip [] d)))) = some (true, h0) := by kernel_rfl
end Go.Proofs.YtonmnpmklkbioaaDoor.Sy
