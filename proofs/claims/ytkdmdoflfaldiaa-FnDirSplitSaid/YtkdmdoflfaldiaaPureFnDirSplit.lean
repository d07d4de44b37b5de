/- FnDirSplit: a path is split at its last slash; without one it is a leaf; no conditions. -/
import Derived.Test.YtkdmdoflfaldiaaPSx1
import Derived.Test.YtkdmdoflfaldiaaPl
namespace Go.Proofs.Ytkdmdoflfaldiaa.Pure
open Go.RowKit Go.Proofs.Ytkdmdoflfaldiaa.PS Go.Proofs.YtkdmdoflfaldiaaW.PrintWords Go.Proofs.YtkdmdoflfaldiaaW.PrintLast Go.Proofs.Ytkdmdoflfaldiaa.Pl

theorem last_byte (s : ByteArray) (c : Int) (hs : s.size ≤ 140737488351232) : ∀ (n k : Nat), n ≤ s.size → n < k → bytealg_LastIndexByteString.l0 k s c ((n : Int) - 1) = some (lastB s c n)
  | 0, k, h, hk => by
    obtain ⟨k, rfl⟩ : ∃ m, k = m + 1 := ⟨k - 1, by omega⟩
    simp only [bytealg_LastIndexByteString.l0]
    rw [if_neg (by omega)]; rfl
  | n + 1, k, h, hk => by
    obtain ⟨k, rfl⟩ : ∃ m, k = m + 1 := ⟨k - 1, by omega⟩
    have e : (((n + 1 : Nat) : Int) - 1) = (n : Int) := by omega
    simp only [bytealg_LastIndexByteString.l0, lastB]
    rw [e, if_pos (by omega), if_pos (by omega), if_pos (by omega)]
    by_cases hb : bt s n = c
    · rw [if_pos hb, if_pos hb]
    · rw [if_neg hb, if_neg hb, wrap64_id (by omega) (by omega)]
      exact last_byte s c hs n k (by omega) (by omega)
theorem last_slash (s : ByteArray) (hs : s.size ≤ 140737488351232) : ∀ (n k : Nat), n ≤ s.size → n < k → spec_LastSlash.l0 k s ((n : Int) - 1) = some (lastB s 47 n)
  | 0, k, h, hk => by
    obtain ⟨k, rfl⟩ : ∃ m, k = m + 1 := ⟨k - 1, by omega⟩
    simp only [spec_LastSlash.l0]
    rw [if_neg (by omega)]; rfl
  | n + 1, k, h, hk => by
    obtain ⟨k, rfl⟩ : ∃ m, k = m + 1 := ⟨k - 1, by omega⟩
    have e : (((n + 1 : Nat) : Int) - 1) = (n : Int) := by omega
    simp only [spec_LastSlash.l0, lastB]
    rw [e, if_pos (by omega), if_pos (by omega), if_pos (by omega)]
    by_cases hb : bt s n = 47
    · rw [if_pos hb, if_pos hb]
    · rw [if_neg hb, if_neg hb, wrap64_id (by omega) (by omega)]
      exact last_slash s hs n k (by omega) (by omega)

def cut (s : ByteArray) (r : Int) : ByteArray × ByteArray := if 0 ≤ r then (s.extract 0 r.toNat, s.extract (r + 1).toNat s.size) else (⟨#[]⟩, s)

theorem split_is (s : ByteArray) (hs : s.size ≤ 140737488351232) (k : Nat) (hk : s.size < k) : impl_DirSplit.f k s = some (cut s (lastB s 47 s.size)) := by
  unfold impl_DirSplit.f dircache_SplitPath.f strings_LastIndex.f bytealg_LastIndexByteString.f
  have h1 : (⟨#[47]⟩ : ByteArray).size = 1 := rfl
  rw [h1, if_neg (by decide), if_pos (by decide), if_pos (by decide), wrap64_id (by omega) (by omega), show bt ⟨#[47]⟩ 0 = 47 from rfl, last_byte s 47 hs s.size k (by omega) hk]
  simp only [Option.bind_some]
  unfold cut
  rcases lastB_cases s 47 s.size with ⟨e, hn⟩ | ⟨q, e, a, hq, hn⟩
  · rw [e]; rfl
  · rw [e, wrap64_id (by omega) (by omega), if_pos (by omega), if_pos (by omega), if_pos (by omega), if_pos (by omega), if_pos (by omega), if_pos (by omega)]
    rfl

theorem FnDirSplit : laws_FnDirSplit.Pure := by
  intro s hs
  refine ⟨s.size + 10, ?_⟩
  unfold laws_FnDirSplit.f
  by_cases h1 : (s.size : Int) > 2147483647
  · rw [if_pos h1]
  rw [if_neg h1]
  by_cases h2 : (s.size : Int) > 5000
  · rw [if_pos h2]
  rw [if_neg h2, split_is s hs _ (by omega), split_is _ (by decide) (s.size + 10) (by simp only [show (⟨#[97, 47, 98, 47, 99]⟩ : ByteArray).size = 5 from rfl]; omega)]
  simp only [Option.bind_some]
  rw [if_pos (by decide +kernel), show ((cut ⟨#[97, 47, 98, 47, 99]⟩ (lastB ⟨#[97, 47, 98, 47, 99]⟩ 47 (⟨#[97, 47, 98, 47, 99]⟩ : ByteArray).size)).2.toList != [99]) = false by decide +kernel]
  show laws_FnDirSplit.j0 (s.size + 9 + 1) s _ _ false = some true
  simp only [laws_FnDirSplit.j0, Bool.false_eq_true, if_false]
  unfold spec_LastSlash.f
  rw [wrap64_id (by omega) (by omega), last_slash s hs s.size _ (by omega) (by omega)]
  simp only [Option.bind_some]
  unfold cut
  rcases lastB_cases s 47 s.size with ⟨e, hn⟩ | ⟨q, e, a, hq, hn⟩
  · rw [e]; simp [tl_data]
  · rw [e, wrap64_id (by omega) (by omega), if_pos (show (0 : Int) ≤ q by omega)]
    rw [if_neg (by omega), if_pos (by omega), if_pos (by omega), if_pos rfl, if_pos (by omega), if_pos (by omega)]
    simp
end Go.Proofs.Ytkdmdoflfaldiaa.Pure
