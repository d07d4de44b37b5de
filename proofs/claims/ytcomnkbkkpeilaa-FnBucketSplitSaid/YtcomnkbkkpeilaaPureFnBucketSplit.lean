/- FnBucketSplit: a path is split at its first slash: the package's Split (by runes) and the reference (by bytes) tell the same of every string; no conditions. -/
import Derived.Test.YtcomnkbkkpeilaaPFnBucketSplitx1
import Derived.Test.YtcomnkbkkpeilaaPl
namespace Go.Proofs.Ytcomnkbkkpeilaa.Pure
open Go.RowKit Go.Proofs.Ytcomnkbkkpeilaa.PFnBucketSplit Go.Proofs.YtcomnkbkkpeilaaW.PrintWords Go.Proofs.YtcomnkbkkpeilaaW.PrintLast Go.Proofs.Ytcomnkbkkpeilaa.Given Go.Proofs.Ytcomnkbkkpeilaa.Pl

def cutAt (s : ByteArray) (i : Int) : ByteArray × ByteArray := if i < 0 then (s, ⟨#[]⟩) else (s.extract 0 i.toNat, s.extract (i.toNat + 1) s.size)

theorem split_is (s : ByteArray) (hs : s.size ≤ 140737488351232) : impl_BucketSplit.f s = some (cutAt s (firstB s 47 s.size 0)) := by
  have hi : bucket_zzIndexRune.f s 47 = some (firstB s 47 s.size 0) := by
    unfold bucket_zzIndexRune.f
    rw [if_pos rfl]
    have := idxRune_firstB s 47 (by omega) s.size 0 s.size (by omega) (by omega)
    simpa using this
  unfold impl_BucketSplit.f bucket_Split.f
  rw [hi]
  by_cases h0 : s.toList = ([] : List UInt8)
  · rw [if_pos h0]
    have h1 : s = ⟨#[]⟩ := by rw [tl_nil, size_nil] at h0; exact h0
    subst h1
    rfl
  · rw [if_neg h0]
    simp only [Option.bind_some]
    rcases firstB_cases s 47 s.size 0 with ⟨e, hn⟩ | ⟨q, e, a, b, hq, hn⟩
    · rw [e]; simp [cutAt]
    · rw [e]
      have w1 : wrap64 ((q : Int) + 1) = (q : Int) + 1 := wrap64_id (by omega) (by omega)
      rw [w1, if_neg (by omega), if_pos (by omega), if_pos (by omega), if_pos (by omega), if_pos (by omega)]
      have : ¬ (q : Int) < 0 := by omega
      simp [cutAt, this]

theorem spec_is (s : ByteArray) (hs : s.size ≤ 140737488351232) : ∀ (n k i : Nat), i + n = s.size → n < k → spec_BucketSplit.l0 k s i = some (cutAt s (firstB s 47 n i))
  | 0, k, i, h, hk => by
    obtain ⟨k, rfl⟩ : ∃ m, k = m + 1 := ⟨k - 1, by omega⟩
    simp only [spec_BucketSplit.l0]
    rw [if_neg (by omega)]
    rfl
  | n + 1, k, i, h, hk => by
    obtain ⟨k, rfl⟩ : ∃ m, k = m + 1 := ⟨k - 1, by omega⟩
    simp only [spec_BucketSplit.l0, firstB]
    have w1 : wrap64 ((i : Int) + 1) = ((i + 1 : Nat) : Int) := by rw [wrap64_id (by omega) (by omega)]; omega
    rw [w1, if_pos (by omega), if_pos (by omega)]
    by_cases hb : bt s i = 47
    · rw [if_pos hb, if_pos hb, if_pos (by omega), if_pos (by omega), if_pos (by omega)]
      have : ¬ (i : Int) < 0 := by omega
      simp [cutAt, this]
    · rw [if_neg hb, if_neg hb]
      exact spec_is s hs n k (i + 1) (by omega) (by omega)

theorem FnBucketSplit : laws_FnBucketSplit.Pure := by
  intro s hs
  refine ⟨s.size + 1, ?_⟩
  unfold laws_FnBucketSplit.f
  by_cases h1 : (s.size : Int) > 2147483647
  · rw [if_pos h1]
  rw [if_neg h1]
  by_cases h2 : (s.size : Int) > 5000
  · rw [if_pos h2]
  rw [if_neg h2, split_is s hs]
  unfold spec_BucketSplit.f
  have : spec_BucketSplit.l0 (s.size + 1) s 0 = _ := spec_is s hs s.size (s.size + 1) 0 (by omega) (by omega)
  rw [this, split_is _ (by decide)]
  simp only [Option.bind_some, if_true]
  decide +kernel
end Go.Proofs.Ytcomnkbkkpeilaa.Pure
