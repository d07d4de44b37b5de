/- PaceRuns: the facts that both calculators' loops need. -/
import Derived.Test.YtgdjplpbpknfmaaTwo
import Derived.Test.YtgdjplpbpknfmaaWWords
import Derived.Deep.LoopGhost
import Derived.Test.YtgdjplpbpknfmaaPl
import Derived.Deep.DeepCutAuto
import Derived.Deep.LoopGhost
import Derived.Deep.DeepCutAuto
namespace Go.Proofs.Ytgdjplpbpknfmaa.Given
open Go.RowKit Go.Proofs.YtgdjplpbpknfmaaW.PrintWords
set_option linter.unusedVariables false
set_option linter.unusedSimpArgs false

/-- One call: the state's sleep and retries behind it. -/
def stp (kk : Int → Int → Int → Int → Int → Int → Int) (mn mx d a sl r : Int) (g : Bool) (t : Int) : Int × Int :=
  (paceOf kk mn mx d a sl (if g then 0 else r + 1) (if g then -1 else t) 0, if g then 0 else r + 1)
def runs (kk : Int → Int → Int → Int → Int → Int → Int) (mn mx d a : Int) : List Bool → List Int → Int → Int → List Int
  | g :: gs, t :: ts, sl, r => (stp kk mn mx d a sl r g t).1 :: runs kk mn mx d a gs ts (stp kk mn mx d a sl r g t).1 (stp kk mn mx d a sl r g t).2
  | _, _, _, _ => []

def Runs (w : World) (xs : List Int) (e : Ending) (w' : World) : Prop :=
  ∃ v, e = .returned v ∧ w'.ownsRow w.heap.size 3 1 v xs.length (nums .i64 xs) ∧ Below w.heap.size w w'


theorem Calc.far3 {w : World} {T : TypeId} {g b : Nat} {mn mx d a : Int} (h : Calc w T g mn mx d a) (hp : g < b) (i j k : Nat) (u1 u2 u3 : Value) : Calc (((w.setCell ⟨b, i, none⟩ u1).setCell ⟨b, j, none⟩ u2).setCell ⟨b, k, none⟩ u3) T g mn mx d a :=
  blk_far (blk_far (blk_far h (Nat.ne_of_lt hp) u1) (Nat.ne_of_lt hp) u2) (Nat.ne_of_lt hp) u3
theorem st_below {w w' : World} {b : Nat} {t : TypeId} {cs : Array Value} (h : w.heap[b]? = some (.cells cs t (0, 0))) (hb : Below w.heap.size w w') : w'.heap[b]? = some (.cells cs t (0, 0)) := by rw [hb.block b (Array.getElem?_eq_some_iff.1 h).1]; exact h
theorem st_facts {w : World} {b : Nat} {t : TypeId} {x y z v : Value} (h : w.heap[b]? = some (.cells #[x, y, z, v] t (0, 0))) : w.cell? ⟨b, 0, none⟩ = some x ∧ w.frozen? ⟨b, 0, none⟩ = false := by
  constructor
  · simp [World.cell?, h]
  · simp [World.frozen?, h]
theorem Calc.far1 {w : World} {T : TypeId} {g b : Nat} {mn mx d a : Int} (h : Calc w T g mn mx d a) (hp : g < b) (i : Nat) (u1 : Value) : Calc (w.setCell ⟨b, i, none⟩ u1) T g mn mx d a :=
  blk_far h (Nat.ne_of_lt hp) u1
theorem own_set1 {w : World} {base : Nat} {e t : TypeId} {size n g : Nat} {v : Value} {xs : List Value} {cs : Array Value} (h : w.ownsRow base e size v n xs) (hg : w.heap[g]? = some (.cells cs t (0, 0))) (hne : e ≠ t) (i : Nat) (u1 : Value) :
    (w.setCell ⟨g, i, none⟩ u1).ownsRow base e size v n xs := own_setCell h (own_ne h hg hne) u1
theorem own_set3 {w : World} {base : Nat} {e t : TypeId} {size n g : Nat} {v : Value} {xs : List Value} {cs : Array Value} (h : w.ownsRow base e size v n xs) (hg : w.heap[g]? = some (.cells cs t (0, 0))) (hne : e ≠ t) (i j k : Nat) (u1 u2 u3 : Value) :
    (((w.setCell ⟨g, i, none⟩ u1).setCell ⟨g, j, none⟩ u2).setCell ⟨g, k, none⟩ u3).ownsRow base e size v n xs :=
  own_set1 (own_set1 (own_set1 h hg hne i u1) (blk_set hg i u1) hne j u2) (blk_set (blk_set hg i u1) j u2) hne k u3
theorem blk_set3 {w : World} {g : Nat} {t : TypeId} {cs : Array Value} (h : w.heap[g]? = some (.cells cs t (0, 0))) (i j k : Nat) (u1 u2 u3 : Value) :
    (((w.setCell ⟨g, i, none⟩ u1).setCell ⟨g, j, none⟩ u2).setCell ⟨g, k, none⟩ u3).heap[g]? = some (.cells (((cs.setIfInBounds i u1).setIfInBounds j u2).setIfInBounds k u3) t (0, 0)) :=
  blk_set (blk_set (blk_set h i u1) j u2) k u3
theorem below_set3 {B b : Nat} {w0 w : World} (h : Below B w0 w) (hb : B < b) (i j k : Nat) (u1 u2 u3 : Value) : Below B w0 (((w.setCell ⟨b, i, none⟩ u1).setCell ⟨b, j, none⟩ u2).setCell ⟨b, k, none⟩ u3) :=
  ((h.setCell (Nat.le_of_lt hb) _).setCell (Nat.le_of_lt hb) _).setCell (Nat.le_of_lt hb) _
theorem runs_step (kk : Int → Int → Int → Int → Int → Int → Int) (mn mx d a : Int) (xs : List Int) (l3 : List Bool) (l4 : List Int) (k : Nat) (h3 : k < l3.length) (h4 : k < l4.length) (sl r : Int) :
    (xs ++ [(stp kk mn mx d a sl r (rdOf false l3 (k : Int)) (rd l4 (k : Int))).1]) ++ runs kk mn mx d a (l3.drop (k + 1)) (l4.drop (k + 1)) (stp kk mn mx d a sl r (rdOf false l3 (k : Int)) (rd l4 (k : Int))).1 (if rdOf false l3 (k : Int) then 0 else r + 1) =
      xs ++ runs kk mn mx d a (l3.drop k) (l4.drop k) sl r := by
  have e3 : rdOf false l3 (k : Int) = l3[k] := by simp [rdOf, h3]
  have e4 : rd l4 (k : Int) = l4[k] := by simp [rd, rdOf, h4]
  rw [List.drop_eq_getElem_cons h3, List.drop_eq_getElem_cons h4, e3, e4, List.append_assoc]
  rfl
theorem own_below {w w' : World} {base : Nat} {e : TypeId} {size n : Nat} {v : Value} {xs : List Value} (h : w.ownsRow base e size v n xs) (hb : Below w.heap.size w w') : w'.ownsRow base e size v n xs :=
  h.kept (row := none) ⟨hb.os, hb.tape, hb.output, hb.size, fun i hi _ => hb.block i hi⟩ (by cases v.ownBlock <;> simp)
theorem stp_eq (kk : Int → Int → Int → Int → Int → Int → Int) (mn mx d a sl r : Int) (g : Bool) (t : Int) {r' t' : Int} (hr : r' = if g then 0 else r + 1) (ht : t' = if g then -1 else t) :
    paceOf kk mn mx d a sl r' t' 0 = (stp kk mn mx d a sl r g t).1 := by rw [hr, ht]; rfl
theorem fin {T : TypeId} (hT : (3 : TypeId) ≠ 23) {g b B : Nat} {mn mx d a sl r' t' y z : Int} {w wc w2 w3 : World} {u : Value} {xs : List Int} (hy : y = z) (hyb : 0 ≤ y ∧ y < 1099511627776) (hst : wc.heap[b]? = some (.cells #[.int .i64 sl, .int .i64 r', .int .i64 t', .int .i64 0] 23 (0, 0)))
    (hown : wc.ownsRow B 3 1 u xs.length (nums .i64 xs)) (hcal : Calc wc T g mn mx d a) (HB : Below B w wc) (hb2 : Below wc.heap.size wc w2) (hb3 : Below w2.heap.size w2 w3) (hB : B < b) (hbs : b < wc.heap.size) (hg : g < b) :
    ∃ sl2 : Int, Hid (sl2 = z) ∧ 0 ≤ sl2 ∧ sl2 < 1099511627776 ∧ Hid ((w3.setCell ⟨b, 0, none⟩ (.int .i64 y)).heap[b]? = some (.cells #[.int .i64 sl2, .int .i64 r', .int .i64 t', .int .i64 0] 23 (0, 0))) ∧
      Hid ((w3.setCell ⟨b, 0, none⟩ (.int .i64 y)).ownsRow B 3 1 u xs.length (nums .i64 xs)) ∧ Hid (Calc (w3.setCell ⟨b, 0, none⟩ (.int .i64 y)) T g mn mx d a) ∧ Hid (Below B w (w3.setCell ⟨b, 0, none⟩ (.int .i64 y))) ∧ b < (w3.setCell ⟨b, 0, none⟩ (.int .i64 y)).heap.size := by
  have h3 := st_below (st_below hst hb2) hb3
  have s2 := hb2.size
  have s3 := hb3.size
  refine ⟨y, Lib.hid hy, hyb.1, hyb.2, Lib.hid (blk_set h3 0 _), Lib.hid (own_set1 (own_below (own_below hown hb2) hb3) h3 hT 0 _), Lib.hid (Calc.far1 ((hcal.below hb2).below hb3) hg 0 _), Lib.hid (((HB.trans (hb2.mono (by omega))).trans (hb3.mono (by omega))).setCell (by simp; omega) _), ?_⟩
  rw [World.size_setCell]
  omega
theorem att_bnd {s a : Int} (ha1 : 1 ≤ a) (ha : a ≤ 16) (hs : 0 ≤ s) (hs' : s < 1099511627776) : 0 ≤ attack s a := by
  obtain ⟨n, rfl⟩ := Int.eq_ofNat_of_zero_le (show 0 ≤ a by omega)
  obtain ⟨p1, p2, e1, e2, e3, e4⟩ := pow_facts n s (by omega) (by omega) hs hs'
  have m0 : 0 ≤ s * 2 ^ n := Int.mul_nonneg hs (by omega)
  have m1 : s * 2 ^ n ≤ 1099511627776 * 65536 := Int.mul_le_mul (by omega) p2 (by omega) (by omega)
  unfold attack
  rw [Int.toNat_natCast]
  have q0 : 0 ≤ (s * 2 ^ n).tdiv (2 ^ n - 1) := Int.tdiv_nonneg m0 (by omega)
  have q1 : (s * 2 ^ n).tdiv (2 ^ n - 1) ≤ s * 2 ^ n := Int.tdiv_le_self _ m0
  rw [Pl.wrap64_id (by omega) (by omega)]
  exact q0
theorem dec_bnd {s d : Int} (hd0 : 0 ≤ d) (hd : d ≤ 16) (hs : 0 ≤ s) (hs' : s < 1099511627776) : 0 ≤ decay s d ∧ decay s d < 1099511627776 := by
  obtain ⟨n, rfl⟩ := Int.eq_ofNat_of_zero_le hd0
  have p1 : 0 < (2 : Int) ^ n := Int.pow_pos (by decide)
  have p2 : (2 : Int) ^ n ≤ 65536 := by
    have h := Nat.pow_le_pow_right (show 0 < 2 by decide) (show n ≤ 16 by omega)
    have e1 : ((2 ^ n : Nat) : Int) = (2 : Int) ^ n := by simp
    omega
  have m0 : 0 ≤ s * 2 ^ n := Int.mul_nonneg hs (by omega)
  have m1 : s * 2 ^ n ≤ 1099511627776 * 65536 := Int.mul_le_mul (by omega) p2 (by omega) (by omega)
  have m2 : s ≤ s * 2 ^ n := by have := Int.mul_le_mul (Int.le_refl s) (show (1 : Int) ≤ 2 ^ n by omega) (by omega) hs; omega
  unfold decay
  rw [Int.toNat_natCast, Pl.wrap64_id (x := s * 2 ^ n) (by omega) (by omega), Pl.wrap64_id (x := s * 2 ^ n - s) (by omega) (by omega)]
  refine ⟨Int.ediv_nonneg (by omega) (by omega), ?_⟩
  refine Int.lt_of_le_of_lt ?_ hs'
  refine Int.le_of_lt_add_one ((Int.ediv_lt_iff_lt_mul p1).2 ?_)
  rw [Int.add_mul]
  omega
theorem bndDf {mn mx d a s r t : Int} (hm0 : 0 ≤ mn) (hm1 : mn ≤ 1099511627775) (hx0 : 0 ≤ mx) (hx1 : mx ≤ 1099511627775) (hd0 : 0 ≤ d) (hd : d ≤ 16) (ha0 : 0 ≤ a) (ha : a ≤ 16) (hs : 0 ≤ s) (hs' : s < 1099511627776) (hr : 0 ≤ r) (ht : t < 1099511627776) :
    0 ≤ paceOf dfcalc mn mx d a s r t 0 ∧ paceOf dfcalc mn mx d a s r t 0 < 1099511627776 := by
  have hD := dec_bnd hd0 hd hs hs'
  unfold paceOf dfcalc after
  by_cases h0 : a = 0
  · repeat' split
    all_goals omega
  · have hA := att_bnd (s := s) (show 1 ≤ a by omega) ha hs hs'
    repeat' split
    all_goals omega
theorem bndS3 {mn mx d a s r t : Int} (hm0 : 0 ≤ mn) (hm1 : mn ≤ 1099511627775) (hx0 : 0 ≤ mx) (hx1 : mx ≤ 1099511627775) (hd0 : 0 ≤ d) (hd : d ≤ 16) (ha0 : 0 ≤ a) (ha : a ≤ 16) (hs : 0 ≤ s) (hs' : s < 1099511627776) (hr : 0 ≤ r) (ht : t < 1099511627776) :
    0 ≤ paceOf s3calc mn mx d a s r t 0 ∧ paceOf s3calc mn mx d a s r t 0 < 1099511627776 := by
  have hD := dec_bnd hd0 hd hs hs'
  unfold paceOf s3calc after
  by_cases h0 : a = 0
  · repeat' split
    all_goals omega
  · have hA := att_bnd (s := s) (show 1 ≤ a by omega) ha hs hs'
    repeat' split
    all_goals omega

end Go.Proofs.Ytgdjplpbpknfmaa.Given
