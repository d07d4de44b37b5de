/- FnBucketBack: a bucket without a slash, joined to whatever path, is split into both again, and Join is associative; no conditions. -/
import Derived.Test.YtcomnkbkkpeilaaPFnBucketBackx1
import Derived.Test.YtcomnkbkkpeilaaPl
namespace Go.Proofs.Ytcomnkbkkpeilaa.Pure
open Go.RowKit Go.Proofs.Ytcomnkbkkpeilaa.PFnBucketBack Go.Proofs.YtcomnkbkkpeilaaW.PrintWords Go.Proofs.YtcomnkbkkpeilaaW.PrintLast Go.Proofs.Ytcomnkbkkpeilaa.Given Go.Proofs.Ytcomnkbkkpeilaa.Pl

def cutAt (s : ByteArray) (i : Int) : ByteArray × ByteArray := if i < 0 then (s, ⟨#[]⟩) else (s.extract 0 i.toNat, s.extract (i.toNat + 1) s.size)

theorem split_is (s : ByteArray) (hs : s.size ≤ 140737488351232) : impl_BucketSplit.f s = some (cutAt s (firstB s 47 s.size 0)) := by
  have hi : bucket_zzIndexRune.f s 47 = some (firstB s 47 s.size 0) := by
    unfold bucket_zzIndexRune.f
    rw [if_pos rfl]
    have := idxRune_firstB s 47 (by omega) s.size 0 s.size (by omega) (by omega)
    simpa using this
  unfold impl_BucketSplit.f bucket_Split.f
  rw [hi]
  by_cases h0 : s.toList = ([] : List UInt8)
  · rw [if_pos h0]
    have h1 : s = ⟨#[]⟩ := by rw [tl_nil, size_nil] at h0; exact h0
    subst h1
    rfl
  · rw [if_neg h0]
    simp only [Option.bind_some]
    rcases firstB_cases s 47 s.size 0 with ⟨e, hn⟩ | ⟨q, e, a, b, hq, hn⟩
    · rw [e]; simp [cutAt]
    · rw [e]
      have w1 : wrap64 ((q : Int) + 1) = (q : Int) + 1 := wrap64_id (by omega) (by omega)
      rw [w1, if_neg (by omega), if_pos (by omega), if_pos (by omega), if_pos (by omega), if_pos (by omega)]
      have : ¬ (q : Int) < 0 := by omega
      simp [cutAt, this]

def joinB (a b : ByteArray) : ByteArray := if a.size = 0 then b else if b.size = 0 then a else a ++ (⟨#[47]⟩ : ByteArray) ++ b
theorem joinB_size (a b : ByteArray) : (joinB a b).size ≤ a.size + b.size + 1 := by
  unfold joinB
  split
  · omega
  · split
    · omega
    · rw [ByteArray.size_append, ByteArray.size_append]; simp only [show (⟨#[47]⟩ : ByteArray).size = 1 from rfl]; omega
theorem join_is (a b : ByteArray) (h : a.size ≤ 140737488351232) (h' : b.size ≤ 140737488351232) : impl_BucketJoin.f a b = some (joinB a b) := by
  unfold impl_BucketJoin.f bucket_Join.f joinB
  by_cases h1 : a.size = 0
  · rw [if_pos (tl_nil.2 h1), if_pos h1]; rfl
  · rw [if_neg (fun e => h1 (tl_nil.1 e)), if_neg h1]
    by_cases h2 : b.size = 0
    · rw [if_pos (tl_nil.2 h2), if_pos h2]; rfl
    · rw [if_neg (fun e => h2 (tl_nil.1 e)), if_neg h2, if_pos (by omega), if_pos (by rw [ByteArray.size_append]; simp only [show (⟨#[47]⟩ : ByteArray).size = 1 from rfl]; omega)]
      rfl
theorem join_assoc (a b c : ByteArray) : joinB (joinB a b) c = joinB a (joinB b c) := by
  unfold joinB
  by_cases h1 : a.size = 0 <;> by_cases h2 : b.size = 0 <;> by_cases h3 : c.size = 0 <;> simp [h1, h2, h3, ByteArray.size_append, ByteArray.append_assoc]

theorem last_is (s : ByteArray) (hs : s.size ≤ 140737488351232) : ∀ (n k : Nat), n ≤ s.size → n < k → ∃ r, spec_LastSlash.l0 k s ((n : Int) - 1) = some r ∧ (0 ≤ r ∨ (r = -1 ∧ ∀ j : Nat, j < n → bt s j ≠ 47))
  | 0, k, h, hk => by
    obtain ⟨k, rfl⟩ : ∃ m, k = m + 1 := ⟨k - 1, by omega⟩
    refine ⟨-1, ?_, .inr ⟨rfl, fun j hj => by omega⟩⟩
    simp only [spec_LastSlash.l0]
    rw [if_neg (by omega)]
  | n + 1, k, h, hk => by
    obtain ⟨k, rfl⟩ : ∃ m, k = m + 1 := ⟨k - 1, by omega⟩
    have e : (((n + 1 : Nat) : Int) - 1) = (n : Int) := by omega
    simp only [spec_LastSlash.l0]
    rw [e, if_pos (by omega), if_pos (by omega), if_pos (by omega)]
    by_cases hb : bt s n = 47
    · exact ⟨n, by rw [if_pos hb], .inl (by omega)⟩
    · rw [if_neg hb]
      rw [wrap64_id (by omega) (by omega)]
      obtain ⟨r, hr, h2⟩ := last_is s hs n k (by omega) (by omega)
      refine ⟨r, hr, ?_⟩
      rcases h2 with h2 | ⟨h2, h3⟩
      · exact .inl h2
      · refine .inr ⟨h2, fun j hj => ?_⟩
        by_cases hjn : j = n
        · rw [hjn]; exact hb
        · exact h3 j (by omega)

theorem back (a b : ByteArray) (h0 : a.size ≠ 0) (h : ∀ j : Nat, j < a.size → bt a j ≠ 47) : cutAt (joinB a b) (firstB (joinB a b) 47 (joinB a b).size 0) = (a, b) := by
  unfold joinB
  rw [if_neg h0]
  by_cases h2 : b.size = 0
  · rw [if_pos h2, firstB_none _ _ _ _ (fun j _ hj => h j (by omega))]
    simp [cutAt, size_nil.1 h2]
  · rw [if_neg h2]
    have h1 : (⟨#[47]⟩ : ByteArray).size = 1 := rfl
    have e : firstB (a ++ (⟨#[47]⟩ : ByteArray) ++ b) 47 (a ++ (⟨#[47]⟩ : ByteArray) ++ b).size 0 = a.size := by
      apply firstB_at
      · omega
      · rw [ByteArray.size_append, ByteArray.size_append]; omega
      · rw [ByteArray.append_assoc]
        have := bt_append_right a ((⟨#[47]⟩ : ByteArray) ++ b) 0 (by rw [ByteArray.size_append]; omega)
        rw [Nat.add_zero] at this
        rw [this, bt_append_left _ _ _ (by omega)]
        rfl
      · intro j _ hj
        rw [ByteArray.append_assoc, bt_append_left _ _ _ hj]
        exact h j hj
    rw [e]
    have h3 : ¬ (a.size : Int) < 0 := by omega
    have e1 : (a ++ (⟨#[47]⟩ : ByteArray) ++ b).extract 0 a.size = a := by rw [ByteArray.append_assoc, cut_left]
    have e2 : (a ++ (⟨#[47]⟩ : ByteArray) ++ b).extract (a.size + 1) (a ++ (⟨#[47]⟩ : ByteArray) ++ b).size = b := by
      have := cut_right (a ++ (⟨#[47]⟩ : ByteArray)) b
      rwa [ByteArray.size_append, h1] at this
    unfold cutAt
    rw [if_neg h3, Int.toNat_natCast, e1, e2]

theorem FnBucketBack : laws_FnBucketBack.Pure := by
  intro a b c ha hb hc
  refine ⟨a.size + 10, ?_⟩
  have w1 : ∀ x, laws_FnBucketBack.j0 (a.size + 10) a b c x = some true := by
    intro x
    show laws_FnBucketBack.j0 (a.size + 9 + 1) a b c x = some true
    simp only [laws_FnBucketBack.j0]
    cases x with
    | true => rfl
    | false =>
      simp only [Bool.false_eq_true, if_false]
      have w2 : ∀ x, (x = false → a.size ≤ 5000 ∧ b.size ≤ 5000 ∧ c.size ≤ 5000) → laws_FnBucketBack.j1 (a.size + 8 + 1) a b c x = some true := by
        intro x hx
        simp only [laws_FnBucketBack.j1]
        cases x with
        | true => rfl
        | false =>
          obtain ⟨ha, hb, hc⟩ := hx rfl
          simp only [Bool.false_eq_true, if_false]
          have z1 := joinB_size a b
          have z2 := joinB_size b c
          rw [join_is a b (by omega) (by omega)]
          simp only [Option.bind_some]
          rw [join_is _ c (by omega) (by omega), join_is b c (by omega) (by omega)]
          simp only [Option.bind_some]
          rw [join_is a _ (by omega) (by omega)]
          simp only [Option.bind_some]
          rw [join_assoc, if_pos rfl, join_is _ _ (by decide) (by decide)]
          simp only [Option.bind_some]
          have e : ((joinB ⟨#[97]⟩ ⟨#[98]⟩).toList != ([97, 47, 98] : List UInt8)) = false := by decide +kernel
          rw [e]
          show laws_FnBucketBack.j2 (a.size + 7 + 1) a b false = some true
          simp only [laws_FnBucketBack.j2, Bool.false_eq_true, if_false]
          have w3 : ∀ x, (x = false → a.size ≠ 0 ∧ ∀ j : Nat, j < a.size → bt a j ≠ 47) → laws_FnBucketBack.j3 (a.size + 6 + 1) a b x = some true := by
            intro x hx
            simp only [laws_FnBucketBack.j3]
            cases x with
            | true => rfl
            | false =>
              obtain ⟨h0, h1⟩ := hx rfl
              simp only [Bool.false_eq_true, if_false]
              rw [join_is a b (by omega) (by omega)]
              simp only [Option.bind_some]
              rw [split_is _ (by omega), back a b h0 h1]
              simp
          by_cases h0 : a.toList = ([] : List UInt8)
          · rw [if_pos h0]; exact w3 true (by simp)
          · rw [if_neg h0]
            unfold spec_LastSlash.f
            rw [wrap64_id (by omega) (by omega)]
            obtain ⟨r, hr, h2⟩ := last_is a (by omega) a.size (a.size + 7) (by omega) (by omega)
            rw [hr]
            simp only [Option.bind_some]
            apply w3
            intro hx
            have hx : ¬ r ≥ 0 := of_decide_eq_false hx
            rcases h2 with h2 | ⟨h2, h3⟩
            · omega
            · exact ⟨fun e => h0 (tl_nil.2 e), h3⟩
      show (if (a.size : Int) > 5000 then laws_FnBucketBack.j1 (a.size + 8 + 1) a b c true else if (b.size : Int) > 5000 then laws_FnBucketBack.j1 (a.size + 8 + 1) a b c true else laws_FnBucketBack.j1 (a.size + 8 + 1) a b c (decide ((c.size : Int) > 5000))) = some true
      by_cases g1 : (a.size : Int) > 5000
      · rw [if_pos g1]; exact w2 true (by simp)
      · rw [if_neg g1]
        by_cases g2 : (b.size : Int) > 5000
        · rw [if_pos g2]; exact w2 true (by simp)
        · rw [if_neg g2]
          apply w2
          intro h
          have h : ¬ (c.size : Int) > 5000 := of_decide_eq_false h
          omega
  unfold laws_FnBucketBack.f
  split
  · exact w1 _
  · split
    · exact w1 _
    · exact w1 _
end Go.Proofs.Ytcomnkbkkpeilaa.Pure
