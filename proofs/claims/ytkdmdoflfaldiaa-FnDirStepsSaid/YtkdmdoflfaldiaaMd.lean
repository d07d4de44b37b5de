/- Maps of strings to strings that a call makes, as functions; and the contracts of a directory cache's methods Put, Get, GetInv, Flush, ResetRoot and New over them. Keys of at most 1,000,000 bytes. -/
import Derived.Test.YtkdmdoflfaldiaaProg
import Derived.WalkKit
import Derived.WalkSpells
import Derived.WalkLawsBesides
import Derived.Lib.Hide
import Derived.Lib.OthersKept
import Derived.Maps.Own
import Derived.Maps.OwnSet
import Derived.Maps.Views
import Derived.Maps.StringElems
import Derived.Deep.DeepMust
import Derived.Deep.LoopGhost
import Derived.BigQuiet
import Derived.Shelf.GgClosure.Gives
namespace Go.Proofs.Ytkdmdoflfaldiaa.Given
open Go.RowKit Go.WideMaps Go.Maps
set_option linter.unusedVariables false
set_option linter.unusedSimpArgs false

abbrev Fs := ByteArray → Option ByteArray
theorem law9 : Keyed Try.prog 9 := string_keyed Try.underlying9
theorem zero9 (w : World) : (zeroValue 9).run Try.prog w = .ok (.string ⟨#[]⟩) w := by kernel_rfl
def kl (s : ByteArray) : Lit := .string s.data.toList
theorem klk {s : ByteArray} : WideAt.IsKeyLit (kl s) := by unfold kl; simp [WideAt.IsKeyLit]
theorem kl_inj {a b : ByteArray} (h : kl a = kl b) : a = b := by
  unfold kl at h
  injection h with h
  exact ByteArray.ext (Array.toList_inj.1 h)
theorem key_ok (s : ByteArray) (hs : s.size ≤ 1000000) : keyOf Try.prog 9 (.string s) = some (kl s) := keyOf_string_mk Try.underlying9 (by unfold maxLen; omega)
theorem key_inv {key : Value} {k : Lit} (h : keyOf Try.prog 9 key = some k) : ∃ s : ByteArray, key = .string s ∧ k = kl s := by
  cases key <;> simp [keyOf, Try.underlying9, mapKey] at h
  exact ⟨_, rfl, by unfold kl; rw [← h.2]⟩

def upd (f : Fs) (s v : ByteArray) : Fs := fun x => if x = s then some v else f x
def del (f : Fs) (s : ByteArray) : Fs := fun x => if x = s then none else f x
def emp : Fs := fun _ => none

/-- The reading D says of each key what f says. -/
def Says (D : DataW Unit) (f : Fs) : Prop := ∀ s, Maps.has D (kl s) = (f s).isSome ∧ D.atKey (kl s) (.lit (kl ⟨#[]⟩)) = .lit (kl ((f s).getD ⟨#[]⟩))
/-- Block b of w is a map of at most n entries, that says of each key what f says. -/
def MapOf (w : World) (b n : Nat) (f : Fs) : Prop :=
  ∃ D : DataW Unit, w.ownsMap Try.prog 9 (plainElem Try.prog 9) b n D ∧ Says D f

theorem MapOf.look {w : World} {b n : Nat} {f : Fs} (h : MapOf w b n f) (s : ByteArray) (hs : s.size ≤ 1000000) :
    (Instr.lookup 60 (.map (some b)) (.string s) true).run Try.prog w = .ok (.tuple #[.string ((f s).getD ⟨#[]⟩), .bool (f s).isSome]) w := by
  obtain ⟨D, ho, hf⟩ := h
  obtain ⟨v, ps, hrun, hv⟩ := ho.look_ok (t := 60) law9 Try.underlying60 (zero9 w) (plainElem_string Try.underlying9 (s := ⟨#[]⟩) (by decide)) (key_ok s hs)
  obtain ⟨a, rfl, ha, _⟩ := plainElem_string_inv Try.underlying9 hv
  have h1 := congrArg Prod.fst ha
  simp only at h1
  have h2 := (hf s).2
  unfold kl at h1 h2
  rw [h2] at h1
  injection h1 with h1
  injection h1 with h1
  have : a = (f s).getD ⟨#[]⟩ := ByteArray.ext (Array.toList_inj.1 h1.symm)
  rw [hrun, (hf s).1, this]

theorem Says.upd {D : DataW Unit} {f : Fs} (h : Says D f) (hm : IsMap D) (s v : ByteArray) : Says (D.put (kl s) (.lit (kl v))) (upd f s v) := by
  intro x
  show _ = (if x = s then some v else f x).isSome ∧ _ = DataW.lit (kl ((if x = s then some v else f x).getD ⟨#[]⟩))
  by_cases e : x = s
  · subst e
    rw [if_pos rfl, Maps.has_put_same hm klk, Maps.atKey_put_same hm klk]
    exact ⟨rfl, rfl⟩
  · have hne : kl x ≠ kl s := fun h => e (kl_inj h)
    rw [if_neg e, Maps.has_put_other hne, Maps.atKey_put_other hne]
    exact h x
theorem Says.del {D : DataW Unit} {f : Fs} (h : Says D f) (s : ByteArray) : Says (D.del (kl s)) (del f s) := by
  intro x
  show _ = (if x = s then none else f x).isSome ∧ _ = DataW.lit (kl ((if x = s then none else f x).getD ⟨#[]⟩))
  by_cases e : x = s
  · subst e
    rw [if_pos rfl, Maps.has_del_same, Maps.atKey_del_same]
    exact ⟨rfl, rfl⟩
  · have hne : kl x ≠ kl s := fun h => e (kl_inj h)
    rw [if_neg e, Maps.has_del_other hne, Maps.atKey_del_other hne]
    exact h x
theorem Says.congr {D : DataW Unit} {f g : Fs} (h : Says D f) (e : ∀ s, f s = g s) : Says D g := fun s => by rw [← e s]; exact h s

theorem MapOf.upd {w : World} {b n : Nat} {f : Fs} (h : MapOf w b n f) (hn : n ≤ 1000000) (s v : ByteArray) (hs : s.size ≤ 1000000) (hv : v.size ≤ 1000000) :
    ∃ w', (Instr.mapUpdate 60 (.map (some b)) (.string s) (.string v)).run Try.prog w = .ok () w' ∧ MapOf w' b (n + 1) (upd f s v) ∧ w.grownBy w' (some b) := by
  obtain ⟨D, ho, hf⟩ := h
  obtain ⟨w', hrun, ho', hg⟩ := ho.update (t := 60) law9 Try.underlying60 (by unfold maxLen; omega) (key_ok s hs) (plainElem_string Try.underlying9 (s := v) (by unfold maxLen; omega))
  exact ⟨w', hrun, ⟨_, ho', hf.upd ho.isMap s v⟩, hg⟩
theorem MapOf.kept {w w' : World} {b n : Nat} {f : Fs} (h : MapOf w b n f) (hb : w'.heap[b]? = w.heap[b]?) : MapOf w' b n f := by
  obtain ⟨D, ⟨es, clock, h1, h2⟩, hf⟩ := h
  exact ⟨D, ⟨es, clock, hb.trans h1, h2⟩, hf⟩
theorem MapOf.mono {w : World} {b n n' : Nat} {f : Fs} (h : MapOf w b n f) (hn : n ≤ n') : MapOf w b n' f := by
  obtain ⟨D, h1, hf⟩ := h
  exact ⟨D, h1.mono hn, hf⟩
theorem MapOf.congr {w : World} {b n : Nat} {f g : Fs} (h : MapOf w b n f) (e : ∀ s, f s = g s) : MapOf w b n g := by
  obtain ⟨D, h1, hf⟩ := h
  exact ⟨D, h1, hf.congr e⟩
theorem MapOf.lt {w : World} {b n : Nat} {f : Fs} (h : MapOf w b n f) : b < w.heap.size := by
  obtain ⟨D, h1, hf⟩ := h
  exact h1.lt
theorem MapOf.made (w : World) : MapOf (w.alloc (.map #[] 0)) w.heap.size 0 emp :=
  ⟨_, World.ownsMap_made _ _ _ _, fun s => ⟨rfl, rfl⟩⟩

theorem cellH {w : World} {g : Nat} {cs : Array Value} {t : TypeId} (h : w.heap[g]? = some (.cells cs t (0, 0))) (j : Nat) (v : Value) (hj : cs[j]? = some v) : w.cell? ⟨g, j, none⟩ = some v := by
  simp [World.cell?, h, hj]
theorem frozenH {w : World} {g : Nat} {cs : Array Value} {t : TypeId} (h : w.heap[g]? = some (.cells cs t (0, 0))) (j : Nat) : w.frozen? ⟨g, j, none⟩ = false := by
  simp [World.frozen?, h]
theorem setH {w : World} {g : Nat} {cs : Array Value} {t : TypeId} (h : w.heap[g]? = some (.cells cs t (0, 0))) (j : Nat) (v : Value) (hj : j < cs.size) : (w.setCell ⟨g, j, none⟩ v).heap[g]? = some (.cells (cs.set j v hj) t (0, 0)) := by
  obtain ⟨hlt, he⟩ := Array.getElem?_eq_some_iff.1 h
  simp [World.setCell, he, hlt, Array.getElem?_modify, Array.getElem_modify, Array.setIfInBounds, hj]
theorem neT {w : World} {g h : Nat} {c d : Array Value} {t u : TypeId} (h1 : w.heap[g]? = some (.cells c t (0, 0))) (h2 : w.heap[h]? = some (.cells d u (0, 0))) (hne : t ≠ u) : g ≠ h := by
  rintro rfl
  rw [h1] at h2
  injection h2 with h2
  injection h2 with _ h3 _
  exact hne h3
theorem neM {w : World} {m n h : Nat} {f : Fs} {d : Array Value} {u : TypeId} (h1 : MapOf w m n f) (h2 : w.heap[h]? = some (.cells d u (0, 0))) : h ≠ m := by
  rintro rfl
  obtain ⟨D, ⟨es, c, h3, _⟩, _⟩ := h1
  rw [h3] at h2
  cases h2
theorem ltH {w : World} {g : Nat} {o : Obj} (h : w.heap[g]? = some o) : g < w.heap.size := (Array.getElem?_eq_some_iff.1 h).1

/-- All blocks that satisfy S stay. -/
structure Keep (S : Nat → Prop) (w w' : World) : Prop where
  os : w'.os = w.os
  tape : w'.tape = w.tape
  output : w'.output = w.output
  size : w.heap.size ≤ w'.heap.size
  block : ∀ k, k < w.heap.size → S k → w'.heap[k]? = w.heap[k]?
theorem Keep.refl (S : Nat → Prop) (w : World) : Keep S w w := ⟨rfl, rfl, rfl, Nat.le_refl _, fun _ _ _ => rfl⟩
theorem Keep.trans {S : Nat → Prop} {a b c : World} (h : Keep S a b) (k : Keep S b c) : Keep S a c :=
  ⟨k.os.trans h.os, k.tape.trans h.tape, k.output.trans h.output, Nat.le_trans h.size k.size, fun i hi h1 => (k.block i (Nat.lt_of_lt_of_le hi h.size) h1).trans (h.block i hi h1)⟩
theorem Keep.mono {S T : Nat → Prop} {a b : World} (h : Keep S a b) (hT : ∀ k, k < a.heap.size → T k → S k) : Keep T a b := ⟨h.os, h.tape, h.output, h.size, fun k hk ht => h.block k hk (hT k hk ht)⟩
theorem Keep.grown {S : Nat → Prop} {a b : World} {m : Nat} (h : a.grownBy b (some m)) (hm : ¬ S m) : Keep S a b :=
  ⟨h.os, h.tape, h.output, h.size, fun k hk h2 => h.block k hk (fun e => hm (by rw [← Option.some.inj e]; exact h2))⟩
theorem Keep.ofBelow {S : Nat → Prop} {a b : World} {B : Nat} (h : Below B a b) (hS : ∀ k, k < a.heap.size → S k → k < B) : Keep S a b := ⟨h.os, h.tape, h.output, h.size, fun k hk h2 => h.block k (hS k hk h2)⟩
theorem Keep.setCell {S : Nat → Prop} (w : World) (A : Addr) (v : Value) (hA : ¬ S A.block) : Keep S w (w.setCell A v) := by
  refine ⟨rfl, rfl, rfl, ?_, ?_⟩
  · simp
  · intro k hk h1
    exact Below.heap_setCell w _ v k (fun e => hA (by rw [← e]; exact h1))
theorem Keep.alloc {S : Nat → Prop} (w : World) (o : Obj) : Keep S w (w.alloc o) :=
  Keep.ofBelow ((Below.refl w.heap.size w).alloc (Nat.le_refl _) o) (fun k hk _ => hk)

/-- A directory cache at block d: its maps lie at p and q. -/
structure Dir (w : World) (d p q n : Nat) (id : ByteArray) (f g : Fs) : Prop where
  hC : ∃ r1 r2 r3 b, w.heap[d]? = some (.cells #[.map (some p), .map (some q), .string id, .string r1, .string r2, .string r3, .bool b] 62 (0, 0))
  hP : MapOf w p n f
  hQ : MapOf w q n g
  ne : p ≠ q
theorem Dir.lt {w : World} {d p q n : Nat} {id : ByteArray} {f g : Fs} (h : Dir w d p q n id f g) : d < w.heap.size ∧ p < w.heap.size ∧ q < w.heap.size := by
  obtain ⟨r1, r2, r3, b, hc⟩ := h.hC
  exact ⟨ltH hc, h.hP.lt, h.hQ.lt⟩
theorem Dir.apart {w : World} {d p q n : Nat} {id : ByteArray} {f g : Fs} (h : Dir w d p q n id f g) : d ≠ p ∧ d ≠ q := by
  obtain ⟨r1, r2, r3, b, hc⟩ := h.hC
  exact ⟨neM h.hP hc, neM h.hQ hc⟩
theorem Dir.kept {w w' : World} {d p q n : Nat} {id : ByteArray} {f g : Fs} (h : Dir w d p q n id f g) (hk : ∀ k, k < w.heap.size → k = d ∨ k = p ∨ k = q → w'.heap[k]? = w.heap[k]?) : Dir w' d p q n id f g := by
  obtain ⟨l1, l2, l3⟩ := h.lt
  obtain ⟨r1, r2, r3, b, hc⟩ := h.hC
  exact ⟨⟨r1, r2, r3, b, (hk d l1 (Or.inl rfl)).trans hc⟩, h.hP.kept (hk p l2 (Or.inr (Or.inl rfl))), h.hQ.kept (hk q l3 (Or.inr (Or.inr rfl))), h.ne⟩
theorem Dir.mono {w : World} {d p q n n' : Nat} {id : ByteArray} {f g : Fs} (h : Dir w d p q n id f g) (hn : n ≤ n') : Dir w d p q n' id f g := ⟨h.hC, h.hP.mono hn, h.hQ.mono hn, h.ne⟩
/-- All blocks but the cache's three. -/
def But (d p q : Nat) : Nat → Prop := fun k => k ≠ d ∧ k ≠ p ∧ k ≠ q

set_option maxHeartbeats 400000 in
theorem put_any (d p q n : Nat) (id s i : ByteArray) (f g : Fs) (w : World) (h : Dir w d p q n id f g) (hn : n ≤ 1000000) (hs : s.size ≤ 1000000) (hi : i.size ≤ 1000000) :
    Calls Try.prog 20 #[.pointer (some ⟨d, 0, none⟩), .string s, .string i] w fun e w' => e = .returned (.tuple #[]) ∧ Dir w' d p q (n + 1) id (upd f s i) (upd g i s) ∧ Keep (But d p q) w w' := by
  obtain ⟨r1, r2, r3, b, hc⟩ := h.hC
  obtain ⟨e1, e2⟩ := h.apart
  obtain ⟨w1, u1, m1, g1⟩ := h.hP.upd hn s i hs hi
  have hc1 := (g1.block d (ltH hc) (fun e => e1 (Option.some.inj e))).trans hc
  have q1 : MapOf w1 q n g := h.hQ.kept (g1.block q h.hQ.lt (fun e => h.ne (Option.some.inj e).symm))
  obtain ⟨w2, u2, m2, g2⟩ := q1.upd hn i s hi hs
  have hc2 := (g2.block d (ltH hc1) (fun e => e2 (Option.some.inj e))).trans hc1
  have p2 : MapOf w2 p (n + 1) (upd f s i) := m1.kept (g2.block p m1.lt (fun e => h.ne (Option.some.inj e)))
  have c0 := cellH hc 0 _ rfl
  have c1 := cellH hc1 1 _ rfl
  go_enter Try.func20, Try.ntmps20
  go_wp2
  go_end0
  exact ⟨rfl, ⟨⟨_, _, _, _, hc2⟩, p2, m2, h.ne⟩, (Keep.grown g1 (fun k => k.2.1 rfl)).trans (Keep.grown g2 (fun k => k.2.2 rfl))⟩
set_option maxHeartbeats 400000 in
theorem get_any (d p q n : Nat) (id s : ByteArray) (f g : Fs) (w : World) (h : Dir w d p q n id f g) (hs : s.size ≤ 1000000) :
    Calls Try.prog 21 #[.pointer (some ⟨d, 0, none⟩), .string s] w fun e w' => e = .returned (.tuple #[.string ((f s).getD ⟨#[]⟩), .bool (f s).isSome]) ∧ w' = w := by
  obtain ⟨r1, r2, r3, b, hc⟩ := h.hC
  have l1 := h.hP.look s hs
  have c0 := cellH hc 0 _ rfl
  go_enter Try.func21, Try.ntmps21
  go_wp2
  go_ret2
  exact ⟨rfl, rfl⟩
set_option maxHeartbeats 400000 in
theorem inv_any (d p q n : Nat) (id s : ByteArray) (f g : Fs) (w : World) (h : Dir w d p q n id f g) (hs : s.size ≤ 1000000) :
    Calls Try.prog 22 #[.pointer (some ⟨d, 0, none⟩), .string s] w fun e w' => e = .returned (.tuple #[.string ((g s).getD ⟨#[]⟩), .bool (g s).isSome]) ∧ w' = w := by
  obtain ⟨r1, r2, r3, b, hc⟩ := h.hC
  have l1 := h.hQ.look s hs
  have c0 := cellH hc 1 _ rfl
  go_enter Try.func22, Try.ntmps22
  go_wp2
  go_ret2
  exact ⟨rfl, rfl⟩

/-- A cache whose maps may be anything at all. -/
def Box (w : World) (d : Nat) (id : ByteArray) : Prop := ∃ a b r1 r2 r3 c, w.heap[d]? = some (.cells #[a, b, .string id, .string r1, .string r2, .string r3, .bool c] 62 (0, 0))
theorem Dir.box {w : World} {d p q n : Nat} {id : ByteArray} {f g : Fs} (h : Dir w d p q n id f g) : Box w d id := by
  obtain ⟨r1, r2, r3, b, hc⟩ := h.hC
  exact ⟨_, _, r1, r2, r3, b, hc⟩
theorem mkMap (w : World) : (Instr.makeMap 60 none).run Try.prog w = .ok (.map (some w.heap.size)) (w.alloc (.map #[] 0)) := by kernel_rfl
set_option maxHeartbeats 400000 in
theorem flush_any (d : Nat) (id : ByteArray) (w : World) (h : Box w d id) :
    Calls Try.prog 24 #[.pointer (some ⟨d, 0, none⟩)] w fun e w' => e = .returned (.tuple #[]) ∧ ∃ p q, w.heap.size ≤ p ∧ w.heap.size ≤ q ∧ Dir w' d p q 0 id emp emp ∧ Keep (fun k => k ≠ d) w w' := by
  obtain ⟨a, b, r1, r2, r3, c, hc⟩ := h
  have hmm := mkMap
  have ld := ltH hc
  have f0 := frozenH hc 0
  have y0 := cellH hc 0 _ rfl
  have f1 := frozenH hc 1
  have y1 := cellH hc 1 _ rfl
  have hc2 := setH hc 0 (.map (some w.heap.size)) (by simp)
  have hc4 := setH hc2 1 (.map (some (w.heap.size + 1))) (by simp)
  obtain ⟨W, hW⟩ : ∃ W, (w.setCell ⟨d, 0, none⟩ (.map (some w.heap.size))).setCell ⟨d, 1, none⟩ (.map (some (w.heap.size + 1))) = W := ⟨_, rfl⟩
  have zW : W.heap.size = w.heap.size := by rw [← hW]; simp
  rw [hW] at hc4
  have hk : Keep (fun k => k ≠ d) w W := by rw [← hW]; exact (Keep.setCell _ _ _ (fun k => k rfl)).trans (Keep.setCell _ _ _ (fun k => k rfl))
  have m1 := MapOf.made W
  have m2 := m1.kept (Below.heap_alloc _ (.map #[] 0) _ (by simp))
  have n1 := MapOf.made (W.alloc (.map #[] 0))
  have z2 : (W.alloc (.map #[] 0)).heap.size = w.heap.size + 1 := by simp [zW]
  rw [z2] at n1
  rw [zW] at m2
  have hc6 := (Below.heap_alloc _ (.map #[] 0) _ (by rw [z2]; omega)).trans ((Below.heap_alloc W (.map #[] 0) _ (by rw [zW]; exact ld)).trans hc4)
  have fin : Dir ((W.alloc (.map #[] 0)).alloc (.map #[] 0)) d w.heap.size (w.heap.size + 1) 0 id emp emp ∧ Keep (fun k => k ≠ d) w ((W.alloc (.map #[] 0)).alloc (.map #[] 0)) :=
    ⟨⟨⟨r1, r2, r3, c, hc6⟩, m2, n1, by omega⟩, (hk.trans (Keep.alloc _ _)).trans (Keep.alloc _ _)⟩
  rw [← hW] at fin
  clear m1 m2 n1 z2 zW hk hc4 hc6 hW hc2
  go_enter Try.func24, Try.ntmps24
  go_wp2

  go_end0
  exact ⟨rfl, _, _, Nat.le_refl _, Nat.le_succ _, fin.1, fin.2⟩
def rootF (id : ByteArray) : Fs := upd emp ⟨#[]⟩ id
def rootG (id : ByteArray) : Fs := upd emp id ⟨#[]⟩
set_option maxHeartbeats 400000 in
theorem reset_any (d : Nat) (id : ByteArray) (hid : id.size ≤ 1000000) (w : World) (h : Box w d id) :
    Calls Try.prog 25 #[.pointer (some ⟨d, 0, none⟩)] w fun e w' => e = .returned (.tuple #[]) ∧ ∃ p q, w.heap.size ≤ p ∧ w.heap.size ≤ q ∧ Dir w' d p q 1 id (rootF id) (rootG id) ∧ Keep (fun k => k ≠ d) w w' := by
  obtain ⟨a, b, r1, r2, r3, c, hc⟩ := h
  have f6 := frozenH hc 6
  have y6 := cellH hc 6 _ rfl
  have hc1 := setH hc 6 (.bool false) (by simp)
  have b1 : Box (w.setCell ⟨d, 6, none⟩ (.bool false)) d id := ⟨_, _, _, _, _, _, hc1⟩
  have fl := flush_any d id _ b1
  have z1 : (w.setCell ⟨d, 6, none⟩ (.bool false)).heap.size = w.heap.size := by simp
  rw [z1] at fl
  clear z1 hc1 b1
  go_enter Try.func25, Try.ntmps25
  go_wp2_with (first
    | (go_at_call 24; go_must (refine fl.mono ?_; rintro e w2 ⟨rfl, p, q, hp, hq, hD, hk⟩);
       obtain ⟨s1, s2, s3, c2, hc2⟩ := hD.hC;
       have c22 := cellH hc2 2 _ rfl; have y24 := cellH hc2 4 _ rfl; have f24 := frozenH hc2 4;
       have hc3 := setH hc2 4 (.string id) (by simp);
       have c34 := cellH hc3 4 _ rfl;
       have D3 : Dir (w2.setCell ⟨d, 4, none⟩ (.string id)) d p q 0 id emp emp := ⟨⟨_, _, _, _, hc3⟩, hD.hP.kept (Below.heap_setCell _ _ _ _ hD.apart.1.symm), hD.hQ.kept (Below.heap_setCell _ _ _ _ hD.apart.2.symm), hD.ne⟩)
    | (go_at_call 20; go_must (refine (put_any d p q 0 id ⟨#[]⟩ id emp emp _ D3 (by omega) (by simp [ByteArray.size]) hid).mono ?_; rintro e w4 ⟨rfl, D4, k4⟩)))
  go_end0
  refine ⟨rfl, p, q, hp, hq, D4, ?_⟩
  have k1 : Keep (fun k => k ≠ d) w (w.setCell ⟨d, 6, none⟩ (.bool false)) := Keep.setCell _ _ _ (fun k => k rfl)
  have k3 : Keep (fun k => k ≠ d) w2 (w2.setCell ⟨d, 4, none⟩ (.string id)) := Keep.setCell _ _ _ (fun k => k rfl)
  have k5 := (k1.trans hk).trans k3
  exact ⟨k4.os.trans k5.os, k4.tape.trans k5.tape, k4.output.trans k5.output, Nat.le_trans k5.size k4.size, fun k h1 h2 => (k4.block k (Nat.lt_of_lt_of_le h1 k5.size) ⟨h2, by omega, by omega⟩).trans (k5.block k h1 h2)⟩
set_option maxHeartbeats 400000 in
theorem new_any (r id : ByteArray) (hid : id.size ≤ 1000000) (w : World) :
    Calls Try.prog 19 #[.string r, .string id] w fun e w' => ∃ d p q, e = .returned (.pointer (some ⟨d, 0, none⟩)) ∧ w.heap.size ≤ d ∧ w.heap.size ≤ p ∧ w.heap.size ≤ q ∧ Dir w' d p q 1 id (rootF id) (rootG id) ∧ Below w.heap.size w w' := by
  obtain ⟨o, ho⟩ : ∃ o, o = Obj.cells #[.map none, .map none, .string id, .string r, .string ⟨#[]⟩, .string ⟨#[]⟩, .bool false] 62 (0, 0) := ⟨_, rfl⟩
  have hb : Box (w.alloc o) w.heap.size id := ⟨_, _, _, _, _, _, by rw [← ho]; exact (MapKept.heap_alloc w o).1⟩
  have z1 : (w.alloc o).heap.size = w.heap.size + 1 := by simp
  have fl := flush_any w.heap.size id _ hb
  rw [z1] at fl
  have B0 : Below w.heap.size w (w.alloc o) := (Below.refl _ _).alloc (Nat.le_refl _) _
  clear z1 hb
  subst ho
  go_enter Try.func19, Try.ntmps19
  go_wp2_with (first
    | (go_at_call 24; go_must (refine fl.mono ?_; rintro e w2 ⟨rfl, p, q, hp, hq, hD, hk⟩); have rs := reset_any w.heap.size id hid _ hD.box)
    | (go_at_call 25; go_must (refine rs.mono ?_; rintro e w4 ⟨rfl, p4, q4, hp4, hq4, D4, k4⟩)))
  go_ret
  have s1 := hk.size
  have s0 := B0.size
  refine ⟨_, p4, q4, rfl, Nat.le_refl _, by omega, by omega, D4, ?_⟩
  exact B0.trans ⟨(k4.os.trans hk.os), (k4.tape.trans hk.tape), (k4.output.trans hk.output), Nat.le_trans hk.size k4.size, fun k h1 => (k4.block k (by omega) (by omega)).trans (hk.block k (by omega) (by omega))⟩
end Go.Proofs.Ytkdmdoflfaldiaa.Given
