/- The contract of impl.ReadFake. Up to 60 steps. -/
import Derived.Test.YtgbcmjbiddkldaaDoorSf
import Derived.Test.YtgbcmjbiddkldaaDoorRm
namespace Go.Proofs.YtgbcmjbiddkldaaDoor.Given
open Go.RowKit Go.Proofs.YtgbcmjbiddkldaaDoorW.PrintWords Go.Proofs.YtgbcmjbiddkldaaDoor.PR Go.Proofs.YtgbcmjbiddkldaaDoor.Pl
set_option linter.unusedVariables false
set_option linter.unusedSimpArgs false

set_option maxHeartbeats 4000000 in
set_option maxRecDepth 100000 in
theorem fake_any (w : World) (a : Addr) (M0 : Nat) (A0 : Option Addr) (c0 : Nat) (l : List (List Int)) (fails : Bool) (len : Int) (hlen : 0 ≤ len ∧ len ≤ 1099511627776) (A1 : Option Addr) (c1 : Nat) (steps : List S32) (hL : LaidE w a M0) (hC : Kd.C (Kd.slice 5 (Kd.int .u8)) w A0 l.length l) (hc : l.length ≤ c0) (hl : l.length ≤ 30) (hp : ∀ p ∈ l, p.length ≤ 100000)
    (hS : Kd.C k32 w A1 steps.length steps) (hc1 : steps.length ≤ c1) (hl60 : steps.length ≤ 60) (hok : ∀ s ∈ steps, okR s) :
    Calls Tryd.prog 15 #[.slice A0 l.length c0, .bool fails, .int .i64 len, .slice A1 steps.length c1] w fun e w' => ∃ v xs, e = .returned v ∧ xs.map (·.2) = runF fails len ⟨l, 0, 0, false⟩ steps ∧ (Outs w' w.heap.size nilV v xs) ∧ Below w.heap.size w w' := by
  obtain ⟨M, hM⟩ : ∃ M, w.heap.size = M := ⟨_, rfl⟩
  have hcp := copied_any w A0 c0 l hC hc (by omega)
  rw [hM] at hcp ⊢
  have hHM := Lib.hid hM
  have hcm : ∀ w' : World, Below M w w' → Kd.C k32 w' A1 steps.length steps := fun w' hb => Kd.C_below hS (by rw [hM]; exact hb)
  have fin := fun (w3 : World) (B Q : Nat) (hR : FR M B Q fails len a w3 ⟨l, 0, 0, false⟩) (hb : Below M w w3) (hs : M ≤ w3.heap.size) => fsteps M B Q c1 fails len A1 steps ⟨l, 0, 0, false⟩ w3 a hR (hL.up (fun k hk => hb.block k (Nat.lt_of_lt_of_le hk (by have := hL.le; omega))) (by have := hL.le; omega) hs) hs (hcm w3 hb) hc1 hl60 (fun w' hb' => hcm w' (hb.trans hb')) hok hp (by simp; omega) rfl hlen
  clear hM
  have done : ∀ (w2 : World) (A : Option Addr) (c : Nat), Parts w2 M A c l → Below M w w2 → M ≤ w2.heap.size → ∀ w3 : World, w3 = (w2.alloc (.cells #[.slice A l.length c, .bool fails, .bool false] 52)).alloc (.cells #[.iface 49 (.pointer (some ⟨w2.heap.size, 0, none⟩)), .nilIface, .int .i64 len, .int .i64 0, .bool false] 88) →
      FR M (w2.heap.size + 1) w2.heap.size fails len a w3 ⟨l, 0, 0, false⟩ ∧ Below M w w3 ∧ M ≤ w3.heap.size := by
    rintro w2 A c hPa hb hs w3 rfl
    have hz : (w2.alloc (.cells #[.slice A l.length c, .bool fails, .bool false] 52)).heap.size = w2.heap.size + 1 := by simp
    have hP := PR.made (fails := fails) hPa hs
    have h3 := (MapKept.heap_alloc (w2.alloc (.cells #[.slice A l.length c, .bool fails, .bool false] 52)) (.cells #[.iface 49 (.pointer (some ⟨w2.heap.size, 0, none⟩)), .nilIface, .int .i64 len, .int .i64 0, .bool false] 88)).1
    rw [hz] at h3
    refine ⟨⟨h3, hP.moved (fun k hk => Below.heap_alloc _ _ _ ?_), .inl rfl, by omega⟩, hb.trans (((Below.refl _ _).alloc hs _).alloc (by omega) _), by simp; omega⟩
    rcases hk with hk | ⟨c, t, hc, _⟩
    · omega
    · exact ltH hc
  have hl30 := Lib.hid hl
  clear hl
  go_enter Tryd.func15, Tryd.ntmps15
  go_wp2_with (first
    | (go_at_call 18; go_must (refine hcp.mono ?_; rintro e w2 ⟨A, c, rfl, hPa, hb2⟩); have hs2 : M ≤ w2.heap.size := (by have := hb2.size; have := hHM.out; omega))
    | (go_at_call 24; go_must (refine (new24 _ _ _).mono ?_; rintro e w3 ⟨rfl, hw3⟩); have hd := done w2 A c hPa hb2 hs2 w3 hw3; clear hw3)
    | (go_at_call 22; go_must (refine (fin w3 (w2.heap.size + 1) w2.heap.size hd.1 hd.2.1 hd.2.2).mono ?_; rintro e w9 ⟨v, xs, rfl, h1, h2, h3⟩)))
  go_ret
  exact ⟨_, xs, rfl, h1, h2, hd.2.1.trans h3⟩
end Go.Proofs.YtgbcmjbiddkldaaDoor.Given
