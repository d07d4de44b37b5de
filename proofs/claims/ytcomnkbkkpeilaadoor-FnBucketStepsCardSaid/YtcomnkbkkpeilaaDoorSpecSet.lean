/- The contract of spec.Buckets.set: a name's row turned, or laid anew; up to 1,000,000 names. -/
import Derived.Test.YtcomnkbkkpeilaaDoorSpec
namespace Go.Proofs.YtcomnkbkkpeilaaDoor.Given
open Go.RowKit Go.WideMaps Go.Maps Go.Proofs.YtcomnkbkkpeilaaDoorW.PrintWords Go.Proofs.YtcomnkbkkpeilaaDoor.PA
set_option linter.unusedVariables false
set_option linter.unusedSimpArgs false

set_option maxHeartbeats 4000000 in
set_option maxRecDepth 100000 in
theorem spec_set (w : World) (B base n : Nat) (vN vI : Value) (kv : List (ByteArray × Int)) (b : ByteArray) (v : Int) (h : SpecB w B base n vN vI kv) (hn : n + 1 ≤ 1000000) (hbase : base ≤ w.heap.size) :
    Calls Tryd.prog 22 #[.pointer (some ⟨B, 0, none⟩), .string b, .int .i64 v] w fun e w' => e = .returned (.tuple #[]) ∧ ∃ n' vN' vI', n' ≤ n + 1 ∧ SpecB w' B base n' vN' vI' (setK kv b v) ∧ KeepS B vN vI w w' := by
  have c0 := cellH h.hB 0 _ rfl
  have c1 := cellH h.hB 1 _ rfl
  simp only [List.getElem_toArray, List.getElem_cons_succ, List.getElem_cons_zero] at c0 c1
  have hsm := h.sm
  obtain ⟨aN, cN, eN⟩ := own_slice h.oN
  obtain ⟨aI, cI, eI⟩ := own_slice h.oI
  subst eN eI
  go_enter Tryd.func22, Tryd.ntmps22
  go_wp2
  go_loopw [13] (fun s12 wr => ∃ i : Nat, s12 = .int .i64 i ∧ i ≤ n ∧ wr = w ∧ Hid (freeK kv b i)) (fun s12 _ => n - (intOf s12).toNat)
  case atStart => exact ⟨0, rfl, Nat.zero_le _, rfl, Lib.hid (by intro p hp; simp at hp)⟩
  case round =>
    obtain ⟨i, rfl, hi, rfl, hH⟩ := hrel
    by_cases hlt : i < n
    · obtain ⟨g, cg, e1, hg⟩ := row_at h.oN (by omega)
      obtain ⟨gi, ci, e2, hgi⟩ := row_at h.oI (by omega)
      cases e1
      cases e2
      have hk : i < kv.length := by rw [h.len]; exact hlt
      have x1 := hg i (.string kv[i].1) (by simp [nameV, hk])
      have x2 := hgi i (.int .i64 kv[i].2) (by simp [isV, hk])
      clear hg hgi
      by_cases hb : kv[i].1 = b
      · have e3 := setK_at b v kv i hk hH.out hb
        have hst := h.oI.stored i (.int .i64 v)
        obtain ⟨cu, hcu⟩ := row_heap h.oI
        have hfz := frozenH hcu i
        have hsp : SpecB (wr.setCell ⟨gi, i, none⟩ (.int .i64 v)) B base n (.slice (some ⟨g, 0, none⟩) n cN) (.slice (some ⟨gi, 0, none⟩) n cI) (setK kv b v) := by
          rw [e3]
          refine ⟨(hst.2.block B (ltH h.hB) (own_ne h.oI h.hB (by decide))).trans h.hB, ?_, ?_, by rw [List.length_set]; exact h.len, h.sm⟩
          · rw [set_names b v kv i hk hb]
            exact own_other h.oN hst.2 (own_type_ne h.oN h.oI (by decide))
          · rw [set_is]
            exact hst.1
        have hkp : KeepS B (.slice (some ⟨g, 0, none⟩) n cN) (.slice (some ⟨gi, 0, none⟩) n cI) wr (wr.setCell ⟨gi, i, none⟩ (.int .i64 v)) := ⟨hst.2.os, hst.2.tape, hst.2.output, hst.2.size, fun k h1 _ _ h4 => hst.2.block k h1 h4⟩
        have hb' : (b.toList == b.toList) = true := by simp
        rw [hb] at x1
        clear hst hcu e3 hH hb
        go_wp2
        refine bodyPost_ret (results_none rfl _ _ _) rfl ?_
        exact ⟨rfl, n, _, _, Nat.le_succ _, hsp, hkp⟩
      · have hb' : (kv[i].1.toList == b.toList) = false := by
          rw [beq_eq_false_iff_ne]
          intro e
          rw [ByteArray.toList_eq, ByteArray.toList_eq] at e
          exact hb (ByteArray.ext (Array.toList_inj.1 e))
        have F : Hid (freeK kv b (i + 1)) := Lib.hid (by
          intro p hp
          rw [List.take_succ_eq_append_getElem hk] at hp
          rcases List.mem_append.1 hp with hp | hp
          · exact hH.out p hp
          · rw [List.mem_singleton.1 hp]; exact hb)
        obtain ⟨nm, hnm⟩ : ∃ nm, kv[i].1 = nm := ⟨_, rfl⟩
        rw [hnm] at hb' x1
        clear hH hb hnm x2
        go_wp2
        go_roundw
        case rel => exact ⟨i + 1, by go_num, by omega, by trivial, F⟩
        case measure => simp [intOf]; omega
    · have hil : i = n := by omega
      subst hil
      have e3 := setK_end b v kv (by rw [h.len]; exact hH.out)
      clear hH
      obtain ⟨j0, hj0, jz0, jz1, jz2⟩ := info_parts sinfo9
      obtain ⟨i0, hi0, iz0, iz1, iz2⟩ := info_parts sinfo3
      have lB := ltH h.hB
      have n1 : some B ≠ (Value.slice aN i cN).ownBlock := own_ne h.oN h.hB (by decide)
      have n2 : some B ≠ (Value.slice aI i cI).ownBlock := own_ne h.oI h.hB (by decide)
      have n5' : (Value.slice aI i cI).ownBlock = none ∨ (Value.slice aI i cI).ownBlock ≠ (Value.slice aN i cN).ownBlock := own_type_ne h.oI h.oN (by decide)
      have n6 : some wr.heap.size ≠ (Value.slice aN i cN).ownBlock := fun e => by have := own_lt h.oN _ e.symm; omega
      have n7 : some (wr.heap.size + 1) ≠ (Value.slice aN i cN).ownBlock := fun e => by have := own_lt h.oN _ e.symm; omega
      have f0 := frozenH h.hB 0
      have f1 := frozenH h.hB 1
      have o13 : Hid (((wr.alloc (.cells #[.string b] 9)).drew).ownsRow base 9 1 (.slice aN i cN) i (kv.map nameV)) := Lib.hid ((h.oN.alloc _).drew)
      have o11 : Hid ((((wr.alloc (.cells #[.string b] 9)).alloc (.cells #[.int .i64 v] 3)).drew).ownsRow base 9 1 (.slice aN i cN) i (kv.map nameV)) := Lib.hid (((h.oN.alloc _).alloc _).drew)
      have o12 : Hid ((((wr.alloc (.cells #[.int .i64 v] 3)).alloc (.cells #[.string b] 9)).drew).ownsRow base 9 1 (.slice aN i cN) i (kv.map nameV)) := Lib.hid (((h.oN.alloc _).alloc _).drew)
      have o23 : Hid (((wr.alloc (.cells #[.string b] 9)).drew).ownsRow base 3 1 (.slice aI i cI) i (kv.map isV)) := Lib.hid ((h.oI.alloc _).drew)
      have o21 : Hid ((((wr.alloc (.cells #[.string b] 9)).alloc (.cells #[.int .i64 v] 3)).drew).ownsRow base 3 1 (.slice aI i cI) i (kv.map isV)) := Lib.hid (((h.oI.alloc _).alloc _).drew)
      have o22 : Hid ((((wr.alloc (.cells #[.int .i64 v] 3)).alloc (.cells #[.string b] 9)).drew).ownsRow base 3 1 (.slice aI i cI) i (kv.map isV)) := Lib.hid (((h.oI.alloc _).alloc _).drew)
      have z1 : (wr.alloc (.cells #[.string b] 9)).heap.size = wr.heap.size + 1 := by simp
      have z2 : (wr.alloc (.cells #[.int .i64 v] 3)).heap.size = wr.heap.size + 1 := by simp
      have q3 : Hid (((wr.alloc (.cells #[.string b] 9)).drew).heap[wr.heap.size]? = some (.cells #[.string b] 9 (0, 0))) := Lib.hid ((MapKept.heap_alloc wr _).1)
      have q1 : Hid ((((wr.alloc (.cells #[.string b] 9)).alloc (.cells #[.int .i64 v] 3)).drew).heap[wr.heap.size]? = some (.cells #[.string b] 9 (0, 0))) := Lib.hid ((Below.heap_alloc _ _ _ (by rw [z1]; omega)).trans (MapKept.heap_alloc wr _).1)
      have q2 : Hid ((((wr.alloc (.cells #[.int .i64 v] 3)).alloc (.cells #[.string b] 9)).drew).heap[wr.heap.size + 1]? = some (.cells #[.string b] 9 (0, 0))) := Lib.hid (by have h9 := (MapKept.heap_alloc (wr.alloc (.cells #[.int .i64 v] 3)) (.cells #[.string b] 9)).1; rw [z2] at h9; exact h9)
      have p1 : Hid ((((wr.alloc (.cells #[.string b] 9)).alloc (.cells #[.int .i64 v] 3)).drew).heap[wr.heap.size + 1]? = some (.cells #[.int .i64 v] 3 (0, 0))) := Lib.hid (by have h9 := (MapKept.heap_alloc (wr.alloc (.cells #[.string b] 9)) (.cells #[.int .i64 v] 3)).1; rw [z1] at h9; exact h9)
      have p2 : Hid ((((wr.alloc (.cells #[.int .i64 v] 3)).alloc (.cells #[.string b] 9)).drew).heap[wr.heap.size]? = some (.cells #[.int .i64 v] 3 (0, 0))) := Lib.hid ((Below.heap_alloc _ _ _ (by rw [z2]; omega)).trans (MapKept.heap_alloc wr _).1)
      clear z1 z2
      have kb : ∀ (o : Obj) (j : Nat) (u : Value), wr.cell? ⟨B, j, none⟩ = some u → (wr.alloc o).cell? ⟨B, j, none⟩ = some u := fun o j u h2 => (((Below.refl wr.heap.size wr).alloc (Nat.le_refl _) o).cell lB).trans h2
      have kb2 : ∀ (o o' : Obj) (j : Nat) (u : Value), wr.cell? ⟨B, j, none⟩ = some u → ((wr.alloc o).alloc o').cell? ⟨B, j, none⟩ = some u := fun o o' j u h2 => ((((Below.refl wr.heap.size wr).alloc (Nat.le_refl _) o).alloc (by simp) o').cell lB).trans h2
      have cw00 := kb (.cells #[.string b] 9) 0 _ c0
      have cw01 := kb (.cells #[.string b] 9) 1 _ c1
      have cw10 := kb (.cells #[.int .i64 v] 3) 0 _ c0
      have cw11 := kb (.cells #[.int .i64 v] 3) 1 _ c1
      have cv00 := kb2 (.cells #[.string b] 9) (.cells #[.int .i64 v] 3) 0 _ c0
      have cv01 := kb2 (.cells #[.string b] 9) (.cells #[.int .i64 v] 3) 1 _ c1
      have cv10 := kb2 (.cells #[.int .i64 v] 3) (.cells #[.string b] 9) 0 _ c0
      have cv11 := kb2 (.cells #[.int .i64 v] 3) (.cells #[.string b] 9) 1 _ c1
      clear kb kb2
      have lB3 : Hid (B < ((wr.alloc (.cells #[.string b] 9)).drew).heap.size) := Lib.hid (Nat.lt_of_lt_of_le lB (by show wr.heap.size ≤ _; simp <;> omega))
      have bW3 : Hid (wr.heap.size ≤ ((wr.alloc (.cells #[.string b] 9)).drew).heap.size) := Lib.hid (by show wr.heap.size ≤ _; simp <;> omega)
      have lB1 : Hid (B < (((wr.alloc (.cells #[.string b] 9)).alloc (.cells #[.int .i64 v] 3)).drew).heap.size) := Lib.hid (Nat.lt_of_lt_of_le lB (by show wr.heap.size ≤ _; simp <;> omega))
      have bW1 : Hid (wr.heap.size ≤ (((wr.alloc (.cells #[.string b] 9)).alloc (.cells #[.int .i64 v] 3)).drew).heap.size) := Lib.hid (by show wr.heap.size ≤ _; simp <;> omega)
      have lB2 : Hid (B < (((wr.alloc (.cells #[.int .i64 v] 3)).alloc (.cells #[.string b] 9)).drew).heap.size) := Lib.hid (Nat.lt_of_lt_of_le lB (by show wr.heap.size ≤ _; simp <;> omega))
      have bW2 : Hid (wr.heap.size ≤ (((wr.alloc (.cells #[.int .i64 v] 3)).alloc (.cells #[.string b] 9)).drew).heap.size) := Lib.hid (by show wr.heap.size ≤ _; simp <;> omega)
      have hb3 : Hid (((wr.alloc (.cells #[.string b] 9)).drew).heap[B]? = some (.cells #[.slice aN i cN, .slice aI i cI] 35 (0, 0))) := Lib.hid ((Below.heap_alloc _ _ _ lB).trans h.hB)
      have hb1 : Hid ((((wr.alloc (.cells #[.string b] 9)).alloc (.cells #[.int .i64 v] 3)).drew).heap[B]? = some (.cells #[.slice aN i cN, .slice aI i cI] 35 (0, 0))) := Lib.hid ((Below.heap_alloc _ _ _ (Nat.lt_of_lt_of_le lB (by simp))).trans ((Below.heap_alloc _ _ _ lB).trans h.hB))
      have hb2 : Hid ((((wr.alloc (.cells #[.int .i64 v] 3)).alloc (.cells #[.string b] 9)).drew).heap[B]? = some (.cells #[.slice aN i cN, .slice aI i cI] 35 (0, 0))) := Lib.hid ((Below.heap_alloc _ _ _ (Nat.lt_of_lt_of_le lB (by simp))).trans ((Below.heap_alloc _ _ _ lB).trans h.hB))
      have be3 : Hid (Below wr.heap.size wr ((wr.alloc (.cells #[.string b] 9)).drew)) := Lib.hid (below_drew1 ((Below.refl _ _).alloc (Nat.le_refl _) _))
      have be1 : Hid (Below wr.heap.size wr (((wr.alloc (.cells #[.string b] 9)).alloc (.cells #[.int .i64 v] 3)).drew)) := Lib.hid (below_drew1 (((Below.refl _ _).alloc (Nat.le_refl _) _).alloc (by simp) _))
      have be2 : Hid (Below wr.heap.size wr (((wr.alloc (.cells #[.int .i64 v] 3)).alloc (.cells #[.string b] 9)).drew)) := Lib.hid (below_drew1 (((Below.refl _ _).alloc (Nat.le_refl _) _).alloc (by simp) _))
      go_upto_region 6 with fail
      go_region_law (first
        | (refine step_append_lies _ rfl (.tmp 34) (.tmp 36) 32 rfl base 9 j0 _ 1 16 Tryd.underlying32 hj0 jz0 jz1 jz2 rfl (by omega) (.slice aN i cN) i (kv.map nameV) rfl ?own ⟨wr.heap.size, 0, none⟩ 1 1 [.string b] rfl rfl ?news (by simp [Value.oneCell']) (by omega) (by unfold maxLen; omega) (by omega) (by simp <;> omega) _ rfl ?_; (case own => first | with_reducible exact o13.out | with_reducible exact o11.out); (case news => first | with_reducible exact World.news_of_block (cs := #[.string b]) (t := 9) (fr := (0, 0)) q3.out | with_reducible exact World.news_of_block (cs := #[.string b]) (t := 9) (fr := (0, 0)) q1.out); intro gg cap w6 hown6 hgrow hat hlt6; have bW6 : wr.heap.size ≤ w6.heap.size := Nat.le_trans (by first | exact bW3.out | exact bW1.out | exact bW2.out) hgrow.size; have lB6 : B < w6.heap.size := (by omega); have hB6 := (hgrow.block B (by first | exact lB3.out | exact lB1.out | exact lB2.out) n1).trans (by first | exact hb3.out | exact hb1.out | exact hb2.out); have c06 : w6.cell? ⟨B, 0, none⟩ = some (.slice aN i cN) := cellH hB6 0 _ rfl; have c16 : w6.cell? ⟨B, 1, none⟩ = some (.slice aI i cI) := cellH hB6 1 _ rfl; have c061 := ((((Below.refl w6.heap.size w6).alloc (Nat.le_refl _) (.cells #[.int .i64 v] 3)).cell lB6).trans c06); have c161 := ((((Below.refl w6.heap.size w6).alloc (Nat.le_refl _) (.cells #[.int .i64 v] 3)).cell lB6).trans c16))
        | (refine step_append_lies _ rfl (.tmp 34) (.tmp 36) 32 rfl base 9 j0 _ 1 16 Tryd.underlying32 hj0 jz0 jz1 jz2 rfl (by omega) (.slice aN i cN) i (kv.map nameV) rfl ?own ⟨wr.heap.size + 1, 0, none⟩ 1 1 [.string b] rfl rfl ?news (by simp [Value.oneCell']) (by omega) (by unfold maxLen; omega) (by omega) (by simp <;> omega) _ rfl ?_; (case own => first | with_reducible exact o12.out); (case news => first | with_reducible exact World.news_of_block (cs := #[.string b]) (t := 9) (fr := (0, 0)) q2.out); intro gg cap w6 hown6 hgrow hat hlt6; have bW6 : wr.heap.size ≤ w6.heap.size := Nat.le_trans (by first | exact bW3.out | exact bW1.out | exact bW2.out) hgrow.size; have lB6 : B < w6.heap.size := (by omega); have hB6 := (hgrow.block B (by first | exact lB3.out | exact lB1.out | exact lB2.out) n1).trans (by first | exact hb3.out | exact hb1.out | exact hb2.out); have c06 : w6.cell? ⟨B, 0, none⟩ = some (.slice aN i cN) := cellH hB6 0 _ rfl; have c16 : w6.cell? ⟨B, 1, none⟩ = some (.slice aI i cI) := cellH hB6 1 _ rfl; have c061 := ((((Below.refl w6.heap.size w6).alloc (Nat.le_refl _) (.cells #[.int .i64 v] 3)).cell lB6).trans c06); have c161 := ((((Below.refl w6.heap.size w6).alloc (Nat.le_refl _) (.cells #[.int .i64 v] 3)).cell lB6).trans c16))
        | (refine step_append_lies _ rfl (.tmp 41) (.tmp 43) 33 rfl base 3 i0 _ 1 8 Tryd.underlying33 hi0 iz0 iz1 iz2 rfl (by omega) (.slice aI i cI) i (kv.map isV) rfl ?own ⟨w6.heap.size, 0, none⟩ 1 1 [.int .i64 v] rfl rfl ?news (by simp [Value.oneCell']) (by omega) (by unfold maxLen; omega) (by omega) ?base _ rfl ?_; (case own => exact (own_other o23.out hgrow n5').alloc _); (case news => exact World.news_of_block (cs := #[.int .i64 v]) (t := 3) (fr := (0, 0)) (MapKept.heap_alloc w6 _).1); (case base => exact Nat.le_trans (Nat.le_trans hbase bW6) (by simp)); intro gg2 cap2 w7 hown7 hgrow2 hat2 hlt7; have hB7 := (hgrow2.block B (by simp; omega) n2).trans ((Below.heap_alloc _ _ _ lB6).trans hB6); have c07 : w7.cell? ⟨B, 0, none⟩ = some (.slice aN i cN) := cellH hB7 0 _ rfl; have c17 : w7.cell? ⟨B, 1, none⟩ = some (.slice aI i cI) := cellH hB7 1 _ rfl; have f07 := frozenH hB7 0; have f17 := frozenH hB7 1; have t6 := own_other o23.out hgrow n5'; have ne6 := own_type_ne hown6 t6 (by decide); have fin := Lib.hid (set_fin h hn hB7 (own_other (hown6.alloc _) hgrow2 ne6) hown7 (keep7 be3.out hgrow ((Below.refl _ _).alloc (Nat.le_refl _) _) hgrow2) e3))
        | (refine step_append_lies _ rfl (.tmp 41) (.tmp 43) 33 rfl base 3 i0 _ 1 8 Tryd.underlying33 hi0 iz0 iz1 iz2 rfl (by omega) (.slice aI i cI) i (kv.map isV) rfl ?own ⟨wr.heap.size + 1, 0, none⟩ 1 1 [.int .i64 v] rfl rfl ?news (by simp [Value.oneCell']) (by omega) (by unfold maxLen; omega) (by omega) ?base _ rfl ?_; (case own => exact own_other o21.out hgrow n5'); (case news => exact World.news_of_block (cs := #[.int .i64 v]) (t := 3) (fr := (0, 0)) ((hgrow.block _ (p1.out |> ltH) n7).trans p1.out)); (case base => exact Nat.le_trans (Nat.le_trans hbase bW6) (by simp)); intro gg2 cap2 w7 hown7 hgrow2 hat2 hlt7; have hB7 := (hgrow2.block B lB6 n2).trans hB6; have c07 : w7.cell? ⟨B, 0, none⟩ = some (.slice aN i cN) := cellH hB7 0 _ rfl; have c17 : w7.cell? ⟨B, 1, none⟩ = some (.slice aI i cI) := cellH hB7 1 _ rfl; have f07 := frozenH hB7 0; have f17 := frozenH hB7 1; have t6 := own_other o21.out hgrow n5'; have ne6 := own_type_ne hown6 t6 (by decide); have fin := Lib.hid (set_fin h hn hB7 (own_other hown6 hgrow2 ne6) hown7 (keep7 be1.out hgrow (Below.refl _ _) hgrow2) e3))
        | (refine step_append_lies _ rfl (.tmp 41) (.tmp 43) 33 rfl base 3 i0 _ 1 8 Tryd.underlying33 hi0 iz0 iz1 iz2 rfl (by omega) (.slice aI i cI) i (kv.map isV) rfl ?own ⟨wr.heap.size, 0, none⟩ 1 1 [.int .i64 v] rfl rfl ?news (by simp [Value.oneCell']) (by omega) (by unfold maxLen; omega) (by omega) ?base _ rfl ?_; (case own => exact own_other o22.out hgrow n5'); (case news => exact World.news_of_block (cs := #[.int .i64 v]) (t := 3) (fr := (0, 0)) ((hgrow.block _ (p2.out |> ltH) n6).trans p2.out)); (case base => exact Nat.le_trans (Nat.le_trans hbase bW6) (by simp)); intro gg2 cap2 w7 hown7 hgrow2 hat2 hlt7; have hB7 := (hgrow2.block B lB6 n2).trans hB6; have c07 : w7.cell? ⟨B, 0, none⟩ = some (.slice aN i cN) := cellH hB7 0 _ rfl; have c17 : w7.cell? ⟨B, 1, none⟩ = some (.slice aI i cI) := cellH hB7 1 _ rfl; have f07 := frozenH hB7 0; have f17 := frozenH hB7 1; have t6 := own_other o22.out hgrow n5'; have ne6 := own_type_ne hown6 t6 (by decide); have fin := Lib.hid (set_fin h hn hB7 (own_other hown6 hgrow2 ne6) hown7 (keep7 be2.out hgrow (Below.refl _ _) hgrow2) e3)))
      all_goals (refine bodyPost_end (results_none rfl _ _ _) rfl ?_; exact ⟨rfl, fin.out⟩)
end Go.Proofs.YtcomnkbkkpeilaaDoor.Given
