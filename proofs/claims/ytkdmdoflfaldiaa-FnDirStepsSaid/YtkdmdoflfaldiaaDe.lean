/- The contract of spec.Dirs.Step whole, by a pure step over two lists; and that the cache's two functions say what the lists say, step by step. -/
import Derived.Test.YtkdmdoflfaldiaaDr
namespace Go.Proofs.Ytkdmdoflfaldiaa.Given
open Go.RowKit Go.WideMaps Go.Maps Go.Proofs.YtkdmdoflfaldiaaW.PrintWords Go.Proofs.Ytkdmdoflfaldiaa.PD Go.Proofs.Ytkdmdoflfaldiaa.Pl
set_option linter.unusedVariables false
set_option linter.unusedSimpArgs false

abbrev Ls := List S31 × List S31
def stepS (id : ByteArray) (s : S34) (l : Ls) : Ls × S40 :=
  if s.f0 = 0 then ((wo l.1 s.f1 ++ [⟨s.f1, s.f2⟩], wo l.2 s.f2 ++ [⟨s.f2, s.f1⟩]), ansD none)
  else if s.f0 = 1 then (l, ansD (fd l.1 s.f1))
  else if s.f0 = 2 then (l, ansD (fd l.2 s.f2))
  else if s.f0 = 3 then (if s.f1 = ⟨#[]⟩ then ([⟨⟨#[]⟩, id⟩], [⟨id, ⟨#[]⟩⟩]) else flS s.f1 l.1 l.1 l.2, ansD none)
  else if s.f0 = 4 then (([], []), ansD none)
  else (([⟨⟨#[]⟩, id⟩], [⟨id, ⟨#[]⟩⟩]), ansD none)

theorem flS_len (a : ByteArray) : ∀ (r lp lb : List S31), (flS a r lp lb).1.length ≤ lp.length ∧ (flS a r lp lb).2.length ≤ lb.length
  | [], lp, lb => ⟨Nat.le_refl _, Nat.le_refl _⟩
  | p :: r, lp, lb => by
    unfold flS
    split
    · have h := flS_len a r (wo lp p.f0) (wo lb p.f1)
      exact ⟨Nat.le_trans h.1 (wo_le _ _), Nat.le_trans h.2 (wo_le _ _)⟩
    · exact flS_len a r lp lb
theorem stepS_len (id : ByteArray) (s : S34) (l : Ls) : (stepS id s l).1.1.length ≤ l.1.length + 1 ∧ (stepS id s l).1.2.length ≤ l.2.length + 1 := by
  have h1 := wo_le l.1 s.f1
  have h2 := wo_le l.2 s.f2
  have h3 := flS_len s.f1 l.1 l.1 l.2
  unfold stepS
  repeat' split
  all_goals simp
  all_goals omega

theorem dirs_any (w : World) (B base : Nat) (v1 v2 : Value) (l : Ls) (s : S34) (id : ByteArray) (h : DirsB w B base v1 v2 l.1 l.2) (hbase : base ≤ w.heap.size) (h1 : l.1.length ≤ 900000) (h2 : l.2.length ≤ 900000) (hz : 0 ≤ s.f0 ∧ s.f0 ≤ 5) :
    Calls Try.prog 13 #[.pointer (some ⟨B, 0, none⟩), .agg #[.int .i64 s.f0, .string s.f1, .string s.f2], .string id] w fun e w' => e = .returned (.agg #[.string (stepS id s l).2.f0, .bool (stepS id s l).2.f1]) ∧
      ∃ v1' v2', DirsB w' B base v1' v2' (stepS id s l).1.1 (stepS id s l).1.2 ∧ Keep (fun k => k ≠ B) w w' := by
  obtain ⟨dv, a, b⟩ := s
  obtain ⟨lp, lb⟩ := l
  simp only at h h1 h2 hz ⊢
  by_cases d0 : dv = 0
  · subst d0
    exact dirs_put w B base v1 v2 lp lb a b id h hbase h1 h2
  by_cases d1 : dv = 1
  · subst d1
    exact dirs_get w B base v1 v2 lp lb a b id h hbase h1 h2
  by_cases d2 : dv = 2
  · subst d2
    exact dirs_inv w B base v1 v2 lp lb a b id h hbase h1 h2
  by_cases d3 : dv = 3
  · subst d3
    by_cases ha : a = ⟨#[]⟩
    · subst ha
      have := dirs_root3 w B base v1 v2 lp lb b id h hbase h1 h2
      simpa [stepS, ansD] using this
    · have := dirs_flush w B base v1 v2 lp lb a b id h hbase h1 h2 ha
      simpa [stepS, ansD, ha] using this
  by_cases d4 : dv = 4
  · subst d4
    exact dirs_empty w B base v1 v2 lp lb a b id h hbase h1 h2
  obtain rfl : dv = 5 := by omega
  exact dirs_root w B base v1 v2 lp lb a b id h hbase h1 h2

theorem fd_wo (k s : ByteArray) : ∀ l : List S31, fd (wo l k) s = if s = k then none else fd l s
  | [] => by simp [wo, fd]
  | p :: r => by
    have ih := fd_wo k s r
    unfold wo at ih ⊢
    by_cases e : p.f0 = k
    · rw [List.filter_cons_of_neg (by simp [e]), ih]
      by_cases e2 : s = k
      · rw [if_pos e2, if_pos e2]
      · rw [if_neg e2, if_neg e2]
        simp only [fd]
        rw [if_neg (fun h => e2 (h.symm.trans e))]
    · rw [List.filter_cons_of_pos (by simp [e])]
      simp only [fd]
      rw [ih]
      by_cases e3 : p.f0 = s
      · rw [if_pos e3, if_pos e3, if_neg (fun h => e (e3.trans h))]
      · rw [if_neg e3, if_neg e3]
theorem fd_snoc (k v s : ByteArray) : ∀ l : List S31, fd l k = none → fd (l ++ [⟨k, v⟩]) s = if s = k then some v else fd l s
  | [], _ => by
    simp only [List.nil_append, fd]
    by_cases e : s = k
    · rw [if_pos e, if_pos e.symm]
    · rw [if_neg e, if_neg (fun h => e h.symm)]
  | p :: r, h => by
    simp only [fd] at h
    by_cases e0 : p.f0 = k
    · rw [if_pos e0] at h; cases h
    rw [if_neg e0] at h
    simp only [List.cons_append, fd]
    rw [fd_snoc k v s r h]
    by_cases e : p.f0 = s
    · rw [if_pos e, if_pos e, if_neg (fun h => e0 (e.trans h))]
    · rw [if_neg e, if_neg e]
theorem fd_mem {k v : ByteArray} : ∀ {l : List S31}, fd l k = some v → ∃ p ∈ l, p.f0 = k ∧ p.f1 = v
  | p :: r, h => by
    simp only [fd] at h
    by_cases e0 : p.f0 = k
    · rw [if_pos e0] at h; exact ⟨p, by simp, e0, Option.some.inj h⟩
    · rw [if_neg e0] at h
      obtain ⟨q, hq, h2⟩ := fd_mem h
      exact ⟨q, by simp [hq], h2⟩
def Nd (l : List S31) : Prop := (l.map (·.f0)).Nodup
theorem mem_fd : ∀ {l : List S31}, Nd l → ∀ p ∈ l, fd l p.f0 = some p.f1
  | q :: r, hn, p, hp => by
    simp only [fd]
    unfold Nd at hn
    rw [List.map_cons, List.nodup_cons] at hn
    rcases List.mem_cons.1 hp with rfl | hp
    · rw [if_pos rfl]
    · rw [if_neg (fun e => hn.1 (List.mem_map.2 ⟨p, hp, e.symm⟩)), mem_fd hn.2 p hp]
theorem Nd.wo {l : List S31} (h : Nd l) (k : ByteArray) : Nd (wo l k) := List.Sublist.nodup (List.Sublist.map _ (List.filter_sublist)) h
theorem Nd.put {l : List S31} (h : Nd l) (k v : ByteArray) : Nd (Given.wo l k ++ [⟨k, v⟩]) := by
  unfold Nd
  rw [List.map_append, List.nodup_append]
  refine ⟨h.wo k, by simp, ?_⟩
  intro a ha b hb e
  obtain ⟨p, hp, rfl⟩ := List.mem_map.1 ha
  have h2 := (List.mem_filter.1 hp).2
  simp at hb h2
  exact h2 (e.trans hb)
theorem Nd.flS (a : ByteArray) : ∀ (r lp lb : List S31), Nd lp → Nd (flS a r lp lb).1
  | [], lp, lb, h => h
  | p :: r, lp, lb, h => by
    unfold Given.flS
    split
    · exact Nd.flS a r _ _ (h.wo _)
    · exact Nd.flS a r lp lb h
open Classical in
theorem fl_one (a s : ByteArray) : ∀ (r lp lb : List S31), fd (flS a r lp lb).1 s = if (bl s a = true ∧ ∃ p ∈ r, p.f0 = s) then none else fd lp s
  | [], lp, lb => by simp [flS]
  | p :: r, lp, lb => by
    unfold flS
    by_cases hb : bl p.f0 a = true
    · rw [if_pos hb, fl_one a s r, fd_wo]
      by_cases h1 : bl s a = true ∧ ∃ q ∈ r, q.f0 = s
      · rw [if_pos h1, if_pos ⟨h1.1, by obtain ⟨q, hq, e⟩ := h1.2; exact ⟨q, by simp [hq], e⟩⟩]
      · rw [if_neg h1]
        by_cases h2 : s = p.f0
        · rw [if_pos h2, if_pos ⟨by rw [h2]; exact hb, p, by simp, h2.symm⟩]
        · rw [if_neg h2, if_neg]
          rintro ⟨h3, q, hq, e⟩
          rcases List.mem_cons.1 hq with rfl | hq
          · exact h2 e.symm
          · exact h1 ⟨h3, q, hq, e⟩
    · rw [if_neg hb, fl_one a s r]
      by_cases h1 : bl s a = true ∧ ∃ q ∈ r, q.f0 = s
      · rw [if_pos h1, if_pos ⟨h1.1, by obtain ⟨q, hq, e⟩ := h1.2; exact ⟨q, by simp [hq], e⟩⟩]
      · rw [if_neg h1, if_neg]
        rintro ⟨h3, q, hq, e⟩
        rcases List.mem_cons.1 hq with rfl | hq
        · rw [e] at hb; exact hb h3
        · exact h1 ⟨h3, q, hq, e⟩
open Classical in
theorem fl_two (a i : ByteArray) : ∀ (r lp lb : List S31), fd (flS a r lp lb).2 i = if (∃ p ∈ r, bl p.f0 a = true ∧ p.f1 = i) then none else fd lb i
  | [], lp, lb => by simp [flS]
  | p :: r, lp, lb => by
    unfold flS
    by_cases hb : bl p.f0 a = true
    · rw [if_pos hb, fl_two a i r, fd_wo]
      by_cases h1 : ∃ q ∈ r, bl q.f0 a = true ∧ q.f1 = i
      · rw [if_pos h1, if_pos (by obtain ⟨q, hq, e⟩ := h1; exact ⟨q, by simp [hq], e⟩)]
      · rw [if_neg h1]
        by_cases h2 : i = p.f1
        · rw [if_pos h2, if_pos ⟨p, by simp, hb, h2.symm⟩]
        · rw [if_neg h2, if_neg]
          rintro ⟨q, hq, h3, e⟩
          rcases List.mem_cons.1 hq with rfl | hq
          · exact h2 e.symm
          · exact h1 ⟨q, hq, h3, e⟩
    · rw [if_neg hb, fl_two a i r]
      by_cases h1 : ∃ q ∈ r, bl q.f0 a = true ∧ q.f1 = i
      · rw [if_pos h1, if_pos (by obtain ⟨q, hq, e⟩ := h1; exact ⟨q, by simp [hq], e⟩)]
      · rw [if_neg h1, if_neg]
        rintro ⟨q, hq, h3, e⟩
        rcases List.mem_cons.1 hq with rfl | hq
        · exact hb h3
        · exact h1 ⟨q, hq, h3, e⟩
theorem bl_bel (s d : ByteArray) : bl s d = bel s d := by
  unfold bl bel pre sl
  congr 1
  have hz : (d ++ (⟨#[47]⟩ : ByteArray)).size = d.size + 1 := by simp [ByteArray.size_append]; rfl
  by_cases c1 : d.size < s.size
  · have c1' : d.size + 1 ≤ s.size := c1
    rw [hz, decide_eq_true c1', Bool.true_and]
    have key : (s.extract 0 d.size = d ∧ bt s (d.size : Int) = 47) ↔ s.extract 0 (d.size + 1) = d ++ ⟨#[47]⟩ := by
      constructor
      · rintro ⟨h1, h2⟩
        refine bt_ext (by rw [hz]; simp; omega) (fun i hi => ?_)
        have hi' : i < d.size + 1 := by simp at hi; omega
        rw [bt_extract s 0 (d.size + 1) i (by omega) c1']
        simp only [Nat.zero_add]
        by_cases hid : i < d.size
        · rw [bt_append_left d _ i hid]
          have := bt_extract s 0 d.size i (by omega) (by omega)
          rw [h1] at this
          simp only [Nat.zero_add] at this
          exact this.symm
        · obtain rfl : i = d.size := by omega
          have := bt_append_right d (⟨#[47]⟩ : ByteArray) 0 (by decide)
          simp only [Nat.add_zero] at this
          rw [this, h2]
          rfl
      · intro h
        constructor
        · refine bt_ext (by simp; omega) (fun i hi => ?_)
          have hi' : i < d.size := by simp at hi; omega
          have h1 := bt_extract s 0 d.size i (by omega) (by omega)
          have h2 := bt_extract s 0 (d.size + 1) i (by omega) c1'
          rw [h1, ← h2, h]
          exact bt_append_left d _ i hi'
        · have h2 := bt_extract s 0 (d.size + 1) d.size (by omega) c1'
          simp only [Nat.zero_add] at h2
          rw [← h2, h]
          have := bt_append_right d (⟨#[47]⟩ : ByteArray) 0 (by decide)
          simp only [Nat.add_zero] at this
          rw [this]
          rfl
    by_cases h : s.extract 0 (d.size + 1) = d ++ ⟨#[47]⟩
    · have h1 := key.2 h
      rw [decide_eq_true ⟨c1, h1⟩]
      simp [h]
    · rw [decide_eq_false (fun hh => h (key.1 hh.2))]
      symm
      rw [beq_eq_false_iff_ne]
      exact fun e => h (tl_inj.1 e)
  · rw [decide_eq_false (fun h => c1 h.1), hz, decide_eq_false (by omega), Bool.false_and]

structure Rel (st : St) (l : Ls) : Prop where
  f : ∀ s, fd l.1 s = st.1 s
  g : ∀ s, fd l.2 s = st.2 s
  nd : Nd l.1
theorem rel_root (id : ByteArray) : Rel (rootF id, rootG id) ([⟨⟨#[]⟩, id⟩], [⟨id, ⟨#[]⟩⟩]) := by
  refine ⟨fun s => ?_, fun s => ?_, by simp [Nd]⟩
  · simp only [fd, rootF, upd, emp]
    by_cases e : s = ⟨#[]⟩
    · rw [if_pos e, if_pos e.symm]
    · rw [if_neg e, if_neg (fun h => e h.symm)]
  · simp only [fd, rootG, upd, emp]
    by_cases e : s = id
    · rw [if_pos e, if_pos e.symm]
    · rw [if_neg e, if_neg (fun h => e h.symm)]
theorem rel_step {st : St} {l : Ls} (h : Rel st l) (id : ByteArray) (s : S34) : Rel (stepD id st s).1 (stepS id s l).1 ∧ (stepS id s l).2 = (stepD id st s).2 := by
  obtain ⟨dv, a, b⟩ := s
  unfold stepD stepS
  simp only
  by_cases d0 : dv = 0
  · rw [if_pos d0, if_pos d0]
    refine ⟨⟨fun s => ?_, fun s => ?_, h.nd.put a b⟩, rfl⟩
    · rw [fd_snoc a b s _ (by rw [fd_wo, if_pos rfl]), fd_wo]
      simp only [upd]
      rw [← h.f s]
      by_cases e : s = a
      · rw [if_pos e, if_pos e]
      · rw [if_neg e, if_neg e, if_neg e]
    · rw [fd_snoc b a s _ (by rw [fd_wo, if_pos rfl]), fd_wo]
      simp only [upd]
      rw [← h.g s]
      by_cases e : s = b
      · rw [if_pos e, if_pos e]
      · rw [if_neg e, if_neg e, if_neg e]
  rw [if_neg d0, if_neg d0]
  by_cases d1 : dv = 1
  · rw [if_pos d1, if_pos d1]
    exact ⟨h, by rw [h.f]⟩
  rw [if_neg d1, if_neg d1]
  by_cases d2 : dv = 2
  · rw [if_pos d2, if_pos d2]
    exact ⟨h, by rw [h.g]⟩
  rw [if_neg d2, if_neg d2]
  by_cases d3 : dv = 3
  · rw [if_pos d3, if_pos d3]
    refine ⟨?_, rfl⟩
    by_cases ha : a = ⟨#[]⟩
    · rw [if_pos ha, if_pos ha]
      exact rel_root id
    · rw [if_neg ha, if_neg ha]
      refine ⟨fun s => ?_, fun i => ?_, Nd.flS a _ _ _ h.nd⟩
      · rw [fl_one]
        simp only [flF]
        rw [← bl_bel, ← h.f s]
        by_cases hb : bl s a = true
        · rw [if_pos hb]
          by_cases hp : ∃ p ∈ l.1, p.f0 = s
          · rw [if_pos ⟨hb, hp⟩]
          · rw [if_neg (fun hh => hp hh.2)]
            cases hf : fd l.1 s with
            | none => rfl
            | some v =>
              obtain ⟨p, h1, h2, _⟩ := fd_mem hf
              exact absurd ⟨p, h1, h2⟩ hp
        · rw [if_neg hb, if_neg (fun hh => hb hh.1)]
      · rw [fl_two]
        simp only [flG]
        rw [← h.g i]
        by_cases hp : ∃ p ∈ l.1, bl p.f0 a = true ∧ p.f1 = i
        · rw [if_pos hp, if_pos]
          obtain ⟨p, h1, h2, h3⟩ := hp
          exact ⟨p.f0, by rw [← bl_bel]; exact h2, by rw [← h.f, mem_fd h.nd p h1, h3]⟩
        · rw [if_neg hp, if_neg]
          rintro ⟨s, h1, h2⟩
          rw [← h.f] at h2
          obtain ⟨p, h3, h4, h5⟩ := fd_mem h2
          exact hp ⟨p, h3, by rw [h4, bl_bel]; exact h1, h5⟩
  rw [if_neg d3, if_neg d3]
  by_cases d4 : dv = 4
  · rw [if_pos d4, if_pos d4]
    exact ⟨⟨fun s => rfl, fun s => rfl, by simp [Nd]⟩, rfl⟩
  · rw [if_neg d4, if_neg d4]
    exact ⟨rel_root id, rfl⟩
end Go.Proofs.Ytkdmdoflfaldiaa.Given
