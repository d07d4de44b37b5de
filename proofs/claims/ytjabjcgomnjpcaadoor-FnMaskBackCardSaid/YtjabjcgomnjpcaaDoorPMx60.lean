-- Written by a program of this session.
import Derived.Test.YtjabjcgomnjpcaaDoorPMx0
namespace Go.Proofs.YtjabjcgomnjpcaaDoor.PM
open Go.RowKit Go.Proofs.YtjabjcgomnjpcaaDoorW.PrintWords Go.Proofs.YtjabjcgomnjpcaaDoorW.PrintLast Go.Proofs.YtjabjcgomnjpcaaDoorW.PrintMore
attribute [local go_sem] max2_int min2_int max_two min_two max_three min_three max_four min_four   -- for this text's walks alone
set_option linter.unusedVariables false
set_option linter.unusedSimpArgs false

/-! ### encoder_nameToEncoding: function 21 -/
def encoder_nameToEncoding.f (a0 : ByteArray) : Option (Int × Bool) := if a0.toList = ([82, 97, 119] : List UInt8) then (some (1, true)) else (if a0.toList = ([78, 111, 110, 101] : List UInt8) then (some (0, true)) else (if a0.toList = ([83, 108, 97, 115, 104] : List UInt8) then (some (2, true)) else (if a0.toList = ([76, 116, 71, 116] : List UInt8) then (some (4, true)) else (if a0.toList = ([83, 113, 117, 97, 114, 101, 66, 114, 97, 99, 107, 101, 116] : List UInt8) then (some (67108864, true)) else (if a0.toList = ([83, 101, 109, 105, 99, 111, 108, 111, 110] : List UInt8) then (some (134217728, true)) else (if a0.toList = ([69, 120, 99, 108, 97, 109, 97, 116, 105, 111, 110] : List UInt8) then (some (268435456, true)) else (if a0.toList = ([68, 111, 117, 98, 108, 101, 81, 117, 111, 116, 101] : List UInt8) then (some (8, true)) else (if a0.toList = ([83, 105, 110, 103, 108, 101, 81, 117, 111, 116, 101] : List UInt8) then (some (16, true)) else (if a0.toList = ([66, 97, 99, 107, 81, 117, 111, 116, 101] : List UInt8) then (some (32, true)) else (if a0.toList = ([68, 111, 108, 108, 97, 114] : List UInt8) then (some (64, true)) else (if a0.toList = ([67, 111, 108, 111, 110] : List UInt8) then (some (128, true)) else (if a0.toList = ([81, 117, 101, 115, 116, 105, 111, 110] : List UInt8) then (some (256, true)) else (if a0.toList = ([65, 115, 116, 101, 114, 105, 115, 107] : List UInt8) then (some (512, true)) else (if a0.toList = ([80, 105, 112, 101] : List UInt8) then (some (1024, true)) else (if a0.toList = ([72, 97, 115, 104] : List UInt8) then (some (2048, true)) else (if a0.toList = ([80, 101, 114, 99, 101, 110, 116] : List UInt8) then (some (4096, true)) else (if a0.toList = ([66, 97, 99, 107, 83, 108, 97, 115, 104] : List UInt8) then (some (8192, true)) else (if a0.toList = ([67, 114, 76, 102] : List UInt8) then (some (16384, true)) else (if a0.toList = ([68, 101, 108] : List UInt8) then (some (32768, true)) else (if a0.toList = ([67, 116, 108] : List UInt8) then (some (65536, true)) else (if a0.toList = ([76, 101, 102, 116, 83, 112, 97, 99, 101] : List UInt8) then (some (131072, true)) else (if a0.toList = ([76, 101, 102, 116, 80, 101, 114, 105, 111, 100] : List UInt8) then (some (262144, true)) else (if a0.toList = ([76, 101, 102, 116, 84, 105, 108, 100, 101] : List UInt8) then (some (524288, true)) else (if a0.toList = ([76, 101, 102, 116, 67, 114, 76, 102, 72, 116, 86, 116] : List UInt8) then (some (1048576, true)) else (if a0.toList = ([82, 105, 103, 104, 116, 83, 112, 97, 99, 101] : List UInt8) then (some (2097152, true)) else (if a0.toList = ([82, 105, 103, 104, 116, 80, 101, 114, 105, 111, 100] : List UInt8) then (some (4194304, true)) else (if a0.toList = ([82, 105, 103, 104, 116, 67, 114, 76, 102, 72, 116, 86, 116] : List UInt8) then (some (8388608, true)) else (if a0.toList = ([73, 110, 118, 97, 108, 105, 100, 85, 116, 102, 56] : List UInt8) then (some (16777216, true)) else (if a0.toList = ([68, 111, 116] : List UInt8) then (some (33554432, true)) else (some (0, false)))))))))))))))))))))))))))))))
set_option maxHeartbeats 8000000 in
set_option maxRecDepth 100000 in
theorem encoder_nameToEncoding.calls (a0 : ByteArray) (r1 : Int) (r2 : Bool) (w : World) (h : encoder_nameToEncoding.f a0 = some (r1, r2)) :
    Calls Tryd.prog 21 #[.string a0] w fun e w' => e = .returned (.tuple #[.int .u64 r1, .bool r2]) ∧ Drawn0 w w' := by
  have H : (if a0.toList = ([82, 97, 119] : List UInt8) then (some (1, true)) else (if a0.toList = ([78, 111, 110, 101] : List UInt8) then (some (0, true)) else (if a0.toList = ([83, 108, 97, 115, 104] : List UInt8) then (some (2, true)) else (if a0.toList = ([76, 116, 71, 116] : List UInt8) then (some (4, true)) else (if a0.toList = ([83, 113, 117, 97, 114, 101, 66, 114, 97, 99, 107, 101, 116] : List UInt8) then (some (67108864, true)) else (if a0.toList = ([83, 101, 109, 105, 99, 111, 108, 111, 110] : List UInt8) then (some (134217728, true)) else (if a0.toList = ([69, 120, 99, 108, 97, 109, 97, 116, 105, 111, 110] : List UInt8) then (some (268435456, true)) else (if a0.toList = ([68, 111, 117, 98, 108, 101, 81, 117, 111, 116, 101] : List UInt8) then (some (8, true)) else (if a0.toList = ([83, 105, 110, 103, 108, 101, 81, 117, 111, 116, 101] : List UInt8) then (some (16, true)) else (if a0.toList = ([66, 97, 99, 107, 81, 117, 111, 116, 101] : List UInt8) then (some (32, true)) else (if a0.toList = ([68, 111, 108, 108, 97, 114] : List UInt8) then (some (64, true)) else (if a0.toList = ([67, 111, 108, 111, 110] : List UInt8) then (some (128, true)) else (if a0.toList = ([81, 117, 101, 115, 116, 105, 111, 110] : List UInt8) then (some (256, true)) else (if a0.toList = ([65, 115, 116, 101, 114, 105, 115, 107] : List UInt8) then (some (512, true)) else (if a0.toList = ([80, 105, 112, 101] : List UInt8) then (some (1024, true)) else (if a0.toList = ([72, 97, 115, 104] : List UInt8) then (some (2048, true)) else (if a0.toList = ([80, 101, 114, 99, 101, 110, 116] : List UInt8) then (some (4096, true)) else (if a0.toList = ([66, 97, 99, 107, 83, 108, 97, 115, 104] : List UInt8) then (some (8192, true)) else (if a0.toList = ([67, 114, 76, 102] : List UInt8) then (some (16384, true)) else (if a0.toList = ([68, 101, 108] : List UInt8) then (some (32768, true)) else (if a0.toList = ([67, 116, 108] : List UInt8) then (some (65536, true)) else (if a0.toList = ([76, 101, 102, 116, 83, 112, 97, 99, 101] : List UInt8) then (some (131072, true)) else (if a0.toList = ([76, 101, 102, 116, 80, 101, 114, 105, 111, 100] : List UInt8) then (some (262144, true)) else (if a0.toList = ([76, 101, 102, 116, 84, 105, 108, 100, 101] : List UInt8) then (some (524288, true)) else (if a0.toList = ([76, 101, 102, 116, 67, 114, 76, 102, 72, 116, 86, 116] : List UInt8) then (some (1048576, true)) else (if a0.toList = ([82, 105, 103, 104, 116, 83, 112, 97, 99, 101] : List UInt8) then (some (2097152, true)) else (if a0.toList = ([82, 105, 103, 104, 116, 80, 101, 114, 105, 111, 100] : List UInt8) then (some (4194304, true)) else (if a0.toList = ([82, 105, 103, 104, 116, 67, 114, 76, 102, 72, 116, 86, 116] : List UInt8) then (some (8388608, true)) else (if a0.toList = ([73, 110, 118, 97, 108, 105, 100, 85, 116, 102, 56] : List UInt8) then (some (16777216, true)) else (if a0.toList = ([68, 111, 116] : List UInt8) then (some (33554432, true)) else (some (0, false)))))))))))))))))))))))))))))))) = some (r1, r2) := h
  clear h
  by_cases c2 : a0.toList = ([82, 97, 119] : List UInt8)
  · rw [if_pos c2] at H
    have c2b0 : (a0.toList == ([82, 97, 119] : List UInt8)) = true := beq_iff_eq.mpr c2
    have c2b1 : (a0.toList != ([82, 97, 119] : List UInt8)) = false := bne_eq_false_iff_eq.mpr c2
    clear c2
    simp only [Option.some.injEq, Prod.mk.injEq] at H
    obtain ⟨rfl, rfl⟩ := H
    go_enter Tryd.func21, Tryd.ntmps21
    go_wp2
    go_ret2
    exact ⟨by first | rfl | (simp; done) | (simp [*]; done), by repeat (first | exact Drawn0.refl _ | apply Drawn0.step)⟩
  · rw [if_neg c2] at H
    have c2b0 : (a0.toList == ([82, 97, 119] : List UInt8)) = false := beq_eq_false_iff_ne.mpr c2
    have c2b1 : (a0.toList != ([82, 97, 119] : List UInt8)) = true := bne_iff_ne.mpr c2
    by_cases c3 : a0.toList = ([78, 111, 110, 101] : List UInt8)
    · rw [if_pos c3] at H
      have c3b0 : (a0.toList == ([78, 111, 110, 101] : List UInt8)) = true := beq_iff_eq.mpr c3
      have c3b1 : (a0.toList != ([78, 111, 110, 101] : List UInt8)) = false := bne_eq_false_iff_eq.mpr c3
      clear c3
      simp only [Option.some.injEq, Prod.mk.injEq] at H
      obtain ⟨rfl, rfl⟩ := H
      go_enter Tryd.func21, Tryd.ntmps21
      go_wp2
      go_ret2
      exact ⟨by first | rfl | (simp; done) | (simp [*]; done), by repeat (first | exact Drawn0.refl _ | apply Drawn0.step)⟩
    · rw [if_neg c3] at H
      have c3b0 : (a0.toList == ([78, 111, 110, 101] : List UInt8)) = false := beq_eq_false_iff_ne.mpr c3
      have c3b1 : (a0.toList != ([78, 111, 110, 101] : List UInt8)) = true := bne_iff_ne.mpr c3
      by_cases c4 : a0.toList = ([83, 108, 97, 115, 104] : List UInt8)
      · rw [if_pos c4] at H
        have c4b0 : (a0.toList == ([83, 108, 97, 115, 104] : List UInt8)) = true := beq_iff_eq.mpr c4
        have c4b1 : (a0.toList != ([83, 108, 97, 115, 104] : List UInt8)) = false := bne_eq_false_iff_eq.mpr c4
        clear c4
        simp only [Option.some.injEq, Prod.mk.injEq] at H
        obtain ⟨rfl, rfl⟩ := H
        go_enter Tryd.func21, Tryd.ntmps21
        go_wp2
        go_ret2
        exact ⟨by first | rfl | (simp; done) | (simp [*]; done), by repeat (first | exact Drawn0.refl _ | apply Drawn0.step)⟩
      · rw [if_neg c4] at H
        have c4b0 : (a0.toList == ([83, 108, 97, 115, 104] : List UInt8)) = false := beq_eq_false_iff_ne.mpr c4
        have c4b1 : (a0.toList != ([83, 108, 97, 115, 104] : List UInt8)) = true := bne_iff_ne.mpr c4
        by_cases c5 : a0.toList = ([76, 116, 71, 116] : List UInt8)
        · rw [if_pos c5] at H
          have c5b0 : (a0.toList == ([76, 116, 71, 116] : List UInt8)) = true := beq_iff_eq.mpr c5
          have c5b1 : (a0.toList != ([76, 116, 71, 116] : List UInt8)) = false := bne_eq_false_iff_eq.mpr c5
          clear c5
          simp only [Option.some.injEq, Prod.mk.injEq] at H
          obtain ⟨rfl, rfl⟩ := H
          go_enter Tryd.func21, Tryd.ntmps21
          go_wp2
          go_ret2
          exact ⟨by first | rfl | (simp; done) | (simp [*]; done), by repeat (first | exact Drawn0.refl _ | apply Drawn0.step)⟩
        · rw [if_neg c5] at H
          have c5b0 : (a0.toList == ([76, 116, 71, 116] : List UInt8)) = false := beq_eq_false_iff_ne.mpr c5
          have c5b1 : (a0.toList != ([76, 116, 71, 116] : List UInt8)) = true := bne_iff_ne.mpr c5
          by_cases c6 : a0.toList = ([83, 113, 117, 97, 114, 101, 66, 114, 97, 99, 107, 101, 116] : List UInt8)
          · rw [if_pos c6] at H
            have c6b0 : (a0.toList == ([83, 113, 117, 97, 114, 101, 66, 114, 97, 99, 107, 101, 116] : List UInt8)) = true := beq_iff_eq.mpr c6
            have c6b1 : (a0.toList != ([83, 113, 117, 97, 114, 101, 66, 114, 97, 99, 107, 101, 116] : List UInt8)) = false := bne_eq_false_iff_eq.mpr c6
            clear c6
            simp only [Option.some.injEq, Prod.mk.injEq] at H
            obtain ⟨rfl, rfl⟩ := H
            go_enter Tryd.func21, Tryd.ntmps21
            go_wp2
            go_ret2
            exact ⟨by first | rfl | (simp; done) | (simp [*]; done), by repeat (first | exact Drawn0.refl _ | apply Drawn0.step)⟩
          · rw [if_neg c6] at H
            have c6b0 : (a0.toList == ([83, 113, 117, 97, 114, 101, 66, 114, 97, 99, 107, 101, 116] : List UInt8)) = false := beq_eq_false_iff_ne.mpr c6
            have c6b1 : (a0.toList != ([83, 113, 117, 97, 114, 101, 66, 114, 97, 99, 107, 101, 116] : List UInt8)) = true := bne_iff_ne.mpr c6
            by_cases c7 : a0.toList = ([83, 101, 109, 105, 99, 111, 108, 111, 110] : List UInt8)
            · rw [if_pos c7] at H
              have c7b0 : (a0.toList == ([83, 101, 109, 105, 99, 111, 108, 111, 110] : List UInt8)) = true := beq_iff_eq.mpr c7
              have c7b1 : (a0.toList != ([83, 101, 109, 105, 99, 111, 108, 111, 110] : List UInt8)) = false := bne_eq_false_iff_eq.mpr c7
              clear c7
              simp only [Option.some.injEq, Prod.mk.injEq] at H
              obtain ⟨rfl, rfl⟩ := H
              go_enter Tryd.func21, Tryd.ntmps21
              go_wp2
              go_ret2
              exact ⟨by first | rfl | (simp; done) | (simp [*]; done), by repeat (first | exact Drawn0.refl _ | apply Drawn0.step)⟩
            · rw [if_neg c7] at H
              have c7b0 : (a0.toList == ([83, 101, 109, 105, 99, 111, 108, 111, 110] : List UInt8)) = false := beq_eq_false_iff_ne.mpr c7
              have c7b1 : (a0.toList != ([83, 101, 109, 105, 99, 111, 108, 111, 110] : List UInt8)) = true := bne_iff_ne.mpr c7
              by_cases c8 : a0.toList = ([69, 120, 99, 108, 97, 109, 97, 116, 105, 111, 110] : List UInt8)
              · rw [if_pos c8] at H
                have c8b0 : (a0.toList == ([69, 120, 99, 108, 97, 109, 97, 116, 105, 111, 110] : List UInt8)) = true := beq_iff_eq.mpr c8
                have c8b1 : (a0.toList != ([69, 120, 99, 108, 97, 109, 97, 116, 105, 111, 110] : List UInt8)) = false := bne_eq_false_iff_eq.mpr c8
                clear c8
                simp only [Option.some.injEq, Prod.mk.injEq] at H
                obtain ⟨rfl, rfl⟩ := H
                go_enter Tryd.func21, Tryd.ntmps21
                go_wp2
                go_ret2
                exact ⟨by first | rfl | (simp; done) | (simp [*]; done), by repeat (first | exact Drawn0.refl _ | apply Drawn0.step)⟩
              · rw [if_neg c8] at H
                have c8b0 : (a0.toList == ([69, 120, 99, 108, 97, 109, 97, 116, 105, 111, 110] : List UInt8)) = false := beq_eq_false_iff_ne.mpr c8
                have c8b1 : (a0.toList != ([69, 120, 99, 108, 97, 109, 97, 116, 105, 111, 110] : List UInt8)) = true := bne_iff_ne.mpr c8
                by_cases c9 : a0.toList = ([68, 111, 117, 98, 108, 101, 81, 117, 111, 116, 101] : List UInt8)
                · rw [if_pos c9] at H
                  have c9b0 : (a0.toList == ([68, 111, 117, 98, 108, 101, 81, 117, 111, 116, 101] : List UInt8)) = true := beq_iff_eq.mpr c9
                  have c9b1 : (a0.toList != ([68, 111, 117, 98, 108, 101, 81, 117, 111, 116, 101] : List UInt8)) = false := bne_eq_false_iff_eq.mpr c9
                  clear c9
                  simp only [Option.some.injEq, Prod.mk.injEq] at H
                  obtain ⟨rfl, rfl⟩ := H
                  go_enter Tryd.func21, Tryd.ntmps21
                  go_wp2
                  go_ret2
                  exact ⟨by first | rfl | (simp; done) | (simp [*]; done), by repeat (first | exact Drawn0.refl _ | apply Drawn0.step)⟩
                · rw [if_neg c9] at H
                  have c9b0 : (a0.toList == ([68, 111, 117, 98, 108, 101, 81, 117, 111, 116, 101] : List UInt8)) = false := beq_eq_false_iff_ne.mpr c9
                  have c9b1 : (a0.toList != ([68, 111, 117, 98, 108, 101, 81, 117, 111, 116, 101] : List UInt8)) = true := bne_iff_ne.mpr c9
                  by_cases c10 : a0.toList = ([83, 105, 110, 103, 108, 101, 81, 117, 111, 116, 101] : List UInt8)
                  · rw [if_pos c10] at H
                    have c10b0 : (a0.toList == ([83, 105, 110, 103, 108, 101, 81, 117, 111, 116, 101] : List UInt8)) = true := beq_iff_eq.mpr c10
                    have c10b1 : (a0.toList != ([83, 105, 110, 103, 108, 101, 81, 117, 111, 116, 101] : List UInt8)) = false := bne_eq_false_iff_eq.mpr c10
                    clear c10
                    simp only [Option.some.injEq, Prod.mk.injEq] at H
                    obtain ⟨rfl, rfl⟩ := H
                    go_enter Tryd.func21, Tryd.ntmps21
                    go_wp2
                    go_ret2
                    exact ⟨by first | rfl | (simp; done) | (simp [*]; done), by repeat (first | exact Drawn0.refl _ | apply Drawn0.step)⟩
                  · rw [if_neg c10] at H
                    have c10b0 : (a0.toList == ([83, 105, 110, 103, 108, 101, 81, 117, 111, 116, 101] : List UInt8)) = false := beq_eq_false_iff_ne.mpr c10
                    have c10b1 : (a0.toList != ([83, 105, 110, 103, 108, 101, 81, 117, 111, 116, 101] : List UInt8)) = true := bne_iff_ne.mpr c10
                    by_cases c11 : a0.toList = ([66, 97, 99, 107, 81, 117, 111, 116, 101] : List UInt8)
                    · rw [if_pos c11] at H
                      have c11b0 : (a0.toList == ([66, 97, 99, 107, 81, 117, 111, 116, 101] : List UInt8)) = true := beq_iff_eq.mpr c11
                      have c11b1 : (a0.toList != ([66, 97, 99, 107, 81, 117, 111, 116, 101] : List UInt8)) = false := bne_eq_false_iff_eq.mpr c11
                      clear c11
                      simp only [Option.some.injEq, Prod.mk.injEq] at H
                      obtain ⟨rfl, rfl⟩ := H
                      go_enter Tryd.func21, Tryd.ntmps21
                      go_wp2
                      go_ret2
                      exact ⟨by first | rfl | (simp; done) | (simp [*]; done), by repeat (first | exact Drawn0.refl _ | apply Drawn0.step)⟩
                    · rw [if_neg c11] at H
                      have c11b0 : (a0.toList == ([66, 97, 99, 107, 81, 117, 111, 116, 101] : List UInt8)) = false := beq_eq_false_iff_ne.mpr c11
                      have c11b1 : (a0.toList != ([66, 97, 99, 107, 81, 117, 111, 116, 101] : List UInt8)) = true := bne_iff_ne.mpr c11
                      by_cases c12 : a0.toList = ([68, 111, 108, 108, 97, 114] : List UInt8)
                      · rw [if_pos c12] at H
                        have c12b0 : (a0.toList == ([68, 111, 108, 108, 97, 114] : List UInt8)) = true := beq_iff_eq.mpr c12
                        have c12b1 : (a0.toList != ([68, 111, 108, 108, 97, 114] : List UInt8)) = false := bne_eq_false_iff_eq.mpr c12
                        clear c12
                        simp only [Option.some.injEq, Prod.mk.injEq] at H
                        obtain ⟨rfl, rfl⟩ := H
                        go_enter Tryd.func21, Tryd.ntmps21
                        go_wp2
                        go_ret2
                        exact ⟨by first | rfl | (simp; done) | (simp [*]; done), by repeat (first | exact Drawn0.refl _ | apply Drawn0.step)⟩
                      · rw [if_neg c12] at H
                        have c12b0 : (a0.toList == ([68, 111, 108, 108, 97, 114] : List UInt8)) = false := beq_eq_false_iff_ne.mpr c12
                        have c12b1 : (a0.toList != ([68, 111, 108, 108, 97, 114] : List UInt8)) = true := bne_iff_ne.mpr c12
                        by_cases c13 : a0.toList = ([67, 111, 108, 111, 110] : List UInt8)
                        · rw [if_pos c13] at H
                          have c13b0 : (a0.toList == ([67, 111, 108, 111, 110] : List UInt8)) = true := beq_iff_eq.mpr c13
                          have c13b1 : (a0.toList != ([67, 111, 108, 111, 110] : List UInt8)) = false := bne_eq_false_iff_eq.mpr c13
                          clear c13
                          simp only [Option.some.injEq, Prod.mk.injEq] at H
                          obtain ⟨rfl, rfl⟩ := H
                          go_enter Tryd.func21, Tryd.ntmps21
                          go_wp2
                          go_ret2
                          exact ⟨by first | rfl | (simp; done) | (simp [*]; done), by repeat (first | exact Drawn0.refl _ | apply Drawn0.step)⟩
                        · rw [if_neg c13] at H
                          have c13b0 : (a0.toList == ([67, 111, 108, 111, 110] : List UInt8)) = false := beq_eq_false_iff_ne.mpr c13
                          have c13b1 : (a0.toList != ([67, 111, 108, 111, 110] : List UInt8)) = true := bne_iff_ne.mpr c13
                          by_cases c14 : a0.toList = ([81, 117, 101, 115, 116, 105, 111, 110] : List UInt8)
                          · rw [if_pos c14] at H
                            have c14b0 : (a0.toList == ([81, 117, 101, 115, 116, 105, 111, 110] : List UInt8)) = true := beq_iff_eq.mpr c14
                            have c14b1 : (a0.toList != ([81, 117, 101, 115, 116, 105, 111, 110] : List UInt8)) = false := bne_eq_false_iff_eq.mpr c14
                            clear c14
                            simp only [Option.some.injEq, Prod.mk.injEq] at H
                            obtain ⟨rfl, rfl⟩ := H
                            go_enter Tryd.func21, Tryd.ntmps21
                            go_wp2
                            go_ret2
                            exact ⟨by first | rfl | (simp; done) | (simp [*]; done), by repeat (first | exact Drawn0.refl _ | apply Drawn0.step)⟩
                          · rw [if_neg c14] at H
                            have c14b0 : (a0.toList == ([81, 117, 101, 115, 116, 105, 111, 110] : List UInt8)) = false := beq_eq_false_iff_ne.mpr c14
                            have c14b1 : (a0.toList != ([81, 117, 101, 115, 116, 105, 111, 110] : List UInt8)) = true := bne_iff_ne.mpr c14
                            by_cases c15 : a0.toList = ([65, 115, 116, 101, 114, 105, 115, 107] : List UInt8)
                            · rw [if_pos c15] at H
                              have c15b0 : (a0.toList == ([65, 115, 116, 101, 114, 105, 115, 107] : List UInt8)) = true := beq_iff_eq.mpr c15
                              have c15b1 : (a0.toList != ([65, 115, 116, 101, 114, 105, 115, 107] : List UInt8)) = false := bne_eq_false_iff_eq.mpr c15
                              clear c15
                              simp only [Option.some.injEq, Prod.mk.injEq] at H
                              obtain ⟨rfl, rfl⟩ := H
                              go_enter Tryd.func21, Tryd.ntmps21
                              go_wp2
                              go_ret2
                              exact ⟨by first | rfl | (simp; done) | (simp [*]; done), by repeat (first | exact Drawn0.refl _ | apply Drawn0.step)⟩
                            · rw [if_neg c15] at H
                              have c15b0 : (a0.toList == ([65, 115, 116, 101, 114, 105, 115, 107] : List UInt8)) = false := beq_eq_false_iff_ne.mpr c15
                              have c15b1 : (a0.toList != ([65, 115, 116, 101, 114, 105, 115, 107] : List UInt8)) = true := bne_iff_ne.mpr c15
                              by_cases c16 : a0.toList = ([80, 105, 112, 101] : List UInt8)
                              · rw [if_pos c16] at H
                                have c16b0 : (a0.toList == ([80, 105, 112, 101] : List UInt8)) = true := beq_iff_eq.mpr c16
                                have c16b1 : (a0.toList != ([80, 105, 112, 101] : List UInt8)) = false := bne_eq_false_iff_eq.mpr c16
                                clear c16
                                simp only [Option.some.injEq, Prod.mk.injEq] at H
                                obtain ⟨rfl, rfl⟩ := H
                                go_enter Tryd.func21, Tryd.ntmps21
                                go_wp2
                                go_ret2
                                exact ⟨by first | rfl | (simp; done) | (simp [*]; done), by repeat (first | exact Drawn0.refl _ | apply Drawn0.step)⟩
                              · rw [if_neg c16] at H
                                have c16b0 : (a0.toList == ([80, 105, 112, 101] : List UInt8)) = false := beq_eq_false_iff_ne.mpr c16
                                have c16b1 : (a0.toList != ([80, 105, 112, 101] : List UInt8)) = true := bne_iff_ne.mpr c16
                                by_cases c17 : a0.toList = ([72, 97, 115, 104] : List UInt8)
                                · rw [if_pos c17] at H
                                  have c17b0 : (a0.toList == ([72, 97, 115, 104] : List UInt8)) = true := beq_iff_eq.mpr c17
                                  have c17b1 : (a0.toList != ([72, 97, 115, 104] : List UInt8)) = false := bne_eq_false_iff_eq.mpr c17
                                  clear c17
                                  simp only [Option.some.injEq, Prod.mk.injEq] at H
                                  obtain ⟨rfl, rfl⟩ := H
                                  go_enter Tryd.func21, Tryd.ntmps21
                                  go_wp2
                                  go_ret2
                                  exact ⟨by first | rfl | (simp; done) | (simp [*]; done), by repeat (first | exact Drawn0.refl _ | apply Drawn0.step)⟩
                                · rw [if_neg c17] at H
                                  have c17b0 : (a0.toList == ([72, 97, 115, 104] : List UInt8)) = false := beq_eq_false_iff_ne.mpr c17
                                  have c17b1 : (a0.toList != ([72, 97, 115, 104] : List UInt8)) = true := bne_iff_ne.mpr c17
                                  by_cases c18 : a0.toList = ([80, 101, 114, 99, 101, 110, 116] : List UInt8)
                                  · rw [if_pos c18] at H
                                    have c18b0 : (a0.toList == ([80, 101, 114, 99, 101, 110, 116] : List UInt8)) = true := beq_iff_eq.mpr c18
                                    have c18b1 : (a0.toList != ([80, 101, 114, 99, 101, 110, 116] : List UInt8)) = false := bne_eq_false_iff_eq.mpr c18
                                    clear c18
                                    simp only [Option.some.injEq, Prod.mk.injEq] at H
                                    obtain ⟨rfl, rfl⟩ := H
                                    go_enter Tryd.func21, Tryd.ntmps21
                                    go_wp2
                                    go_ret2
                                    exact ⟨by first | rfl | (simp; done) | (simp [*]; done), by repeat (first | exact Drawn0.refl _ | apply Drawn0.step)⟩
                                  · rw [if_neg c18] at H
                                    have c18b0 : (a0.toList == ([80, 101, 114, 99, 101, 110, 116] : List UInt8)) = false := beq_eq_false_iff_ne.mpr c18
                                    have c18b1 : (a0.toList != ([80, 101, 114, 99, 101, 110, 116] : List UInt8)) = true := bne_iff_ne.mpr c18
                                    by_cases c19 : a0.toList = ([66, 97, 99, 107, 83, 108, 97, 115, 104] : List UInt8)
                                    · rw [if_pos c19] at H
                                      have c19b0 : (a0.toList == ([66, 97, 99, 107, 83, 108, 97, 115, 104] : List UInt8)) = true := beq_iff_eq.mpr c19
                                      have c19b1 : (a0.toList != ([66, 97, 99, 107, 83, 108, 97, 115, 104] : List UInt8)) = false := bne_eq_false_iff_eq.mpr c19
                                      clear c19
                                      simp only [Option.some.injEq, Prod.mk.injEq] at H
                                      obtain ⟨rfl, rfl⟩ := H
                                      go_enter Tryd.func21, Tryd.ntmps21
                                      go_wp2
                                      go_ret2
                                      exact ⟨by first | rfl | (simp; done) | (simp [*]; done), by repeat (first | exact Drawn0.refl _ | apply Drawn0.step)⟩
                                    · rw [if_neg c19] at H
                                      have c19b0 : (a0.toList == ([66, 97, 99, 107, 83, 108, 97, 115, 104] : List UInt8)) = false := beq_eq_false_iff_ne.mpr c19
                                      have c19b1 : (a0.toList != ([66, 97, 99, 107, 83, 108, 97, 115, 104] : List UInt8)) = true := bne_iff_ne.mpr c19
                                      by_cases c20 : a0.toList = ([67, 114, 76, 102] : List UInt8)
                                      · rw [if_pos c20] at H
                                        have c20b0 : (a0.toList == ([67, 114, 76, 102] : List UInt8)) = true := beq_iff_eq.mpr c20
                                        have c20b1 : (a0.toList != ([67, 114, 76, 102] : List UInt8)) = false := bne_eq_false_iff_eq.mpr c20
                                        clear c20
                                        simp only [Option.some.injEq, Prod.mk.injEq] at H
                                        obtain ⟨rfl, rfl⟩ := H
                                        go_enter Tryd.func21, Tryd.ntmps21
                                        go_wp2
                                        go_ret2
                                        exact ⟨by first | rfl | (simp; done) | (simp [*]; done), by repeat (first | exact Drawn0.refl _ | apply Drawn0.step)⟩
                                      · rw [if_neg c20] at H
                                        have c20b0 : (a0.toList == ([67, 114, 76, 102] : List UInt8)) = false := beq_eq_false_iff_ne.mpr c20
                                        have c20b1 : (a0.toList != ([67, 114, 76, 102] : List UInt8)) = true := bne_iff_ne.mpr c20
                                        by_cases c21 : a0.toList = ([68, 101, 108] : List UInt8)
                                        · rw [if_pos c21] at H
                                          have c21b0 : (a0.toList == ([68, 101, 108] : List UInt8)) = true := beq_iff_eq.mpr c21
                                          have c21b1 : (a0.toList != ([68, 101, 108] : List UInt8)) = false := bne_eq_false_iff_eq.mpr c21
                                          clear c21
                                          simp only [Option.some.injEq, Prod.mk.injEq] at H
                                          obtain ⟨rfl, rfl⟩ := H
                                          go_enter Tryd.func21, Tryd.ntmps21
                                          go_wp2
                                          go_ret2
                                          exact ⟨by first | rfl | (simp; done) | (simp [*]; done), by repeat (first | exact Drawn0.refl _ | apply Drawn0.step)⟩
                                        · rw [if_neg c21] at H
                                          have c21b0 : (a0.toList == ([68, 101, 108] : List UInt8)) = false := beq_eq_false_iff_ne.mpr c21
                                          have c21b1 : (a0.toList != ([68, 101, 108] : List UInt8)) = true := bne_iff_ne.mpr c21
                                          by_cases c22 : a0.toList = ([67, 116, 108] : List UInt8)
                                          · rw [if_pos c22] at H
                                            have c22b0 : (a0.toList == ([67, 116, 108] : List UInt8)) = true := beq_iff_eq.mpr c22
                                            have c22b1 : (a0.toList != ([67, 116, 108] : List UInt8)) = false := bne_eq_false_iff_eq.mpr c22
                                            clear c22
                                            simp only [Option.some.injEq, Prod.mk.injEq] at H
                                            obtain ⟨rfl, rfl⟩ := H
                                            go_enter Tryd.func21, Tryd.ntmps21
                                            go_wp2
                                            go_ret2
                                            exact ⟨by first | rfl | (simp; done) | (simp [*]; done), by repeat (first | exact Drawn0.refl _ | apply Drawn0.step)⟩
                                          · rw [if_neg c22] at H
                                            have c22b0 : (a0.toList == ([67, 116, 108] : List UInt8)) = false := beq_eq_false_iff_ne.mpr c22
                                            have c22b1 : (a0.toList != ([67, 116, 108] : List UInt8)) = true := bne_iff_ne.mpr c22
                                            by_cases c23 : a0.toList = ([76, 101, 102, 116, 83, 112, 97, 99, 101] : List UInt8)
                                            · rw [if_pos c23] at H
                                              have c23b0 : (a0.toList == ([76, 101, 102, 116, 83, 112, 97, 99, 101] : List UInt8)) = true := beq_iff_eq.mpr c23
                                              have c23b1 : (a0.toList != ([76, 101, 102, 116, 83, 112, 97, 99, 101] : List UInt8)) = false := bne_eq_false_iff_eq.mpr c23
                                              clear c23
                                              simp only [Option.some.injEq, Prod.mk.injEq] at H
                                              obtain ⟨rfl, rfl⟩ := H
                                              go_enter Tryd.func21, Tryd.ntmps21
                                              go_wp2
                                              go_ret2
                                              exact ⟨by first | rfl | (simp; done) | (simp [*]; done), by repeat (first | exact Drawn0.refl _ | apply Drawn0.step)⟩
                                            · rw [if_neg c23] at H
                                              have c23b0 : (a0.toList == ([76, 101, 102, 116, 83, 112, 97, 99, 101] : List UInt8)) = false := beq_eq_false_iff_ne.mpr c23
                                              have c23b1 : (a0.toList != ([76, 101, 102, 116, 83, 112, 97, 99, 101] : List UInt8)) = true := bne_iff_ne.mpr c23
                                              by_cases c24 : a0.toList = ([76, 101, 102, 116, 80, 101, 114, 105, 111, 100] : List UInt8)
                                              · rw [if_pos c24] at H
                                                have c24b0 : (a0.toList == ([76, 101, 102, 116, 80, 101, 114, 105, 111, 100] : List UInt8)) = true := beq_iff_eq.mpr c24
                                                have c24b1 : (a0.toList != ([76, 101, 102, 116, 80, 101, 114, 105, 111, 100] : List UInt8)) = false := bne_eq_false_iff_eq.mpr c24
                                                clear c24
                                                simp only [Option.some.injEq, Prod.mk.injEq] at H
                                                obtain ⟨rfl, rfl⟩ := H
                                                go_enter Tryd.func21, Tryd.ntmps21
                                                go_wp2
                                                go_ret2
                                                exact ⟨by first | rfl | (simp; done) | (simp [*]; done), by repeat (first | exact Drawn0.refl _ | apply Drawn0.step)⟩
                                              · rw [if_neg c24] at H
                                                have c24b0 : (a0.toList == ([76, 101, 102, 116, 80, 101, 114, 105, 111, 100] : List UInt8)) = false := beq_eq_false_iff_ne.mpr c24
                                                have c24b1 : (a0.toList != ([76, 101, 102, 116, 80, 101, 114, 105, 111, 100] : List UInt8)) = true := bne_iff_ne.mpr c24
                                                by_cases c25 : a0.toList = ([76, 101, 102, 116, 84, 105, 108, 100, 101] : List UInt8)
                                                · rw [if_pos c25] at H
                                                  have c25b0 : (a0.toList == ([76, 101, 102, 116, 84, 105, 108, 100, 101] : List UInt8)) = true := beq_iff_eq.mpr c25
                                                  have c25b1 : (a0.toList != ([76, 101, 102, 116, 84, 105, 108, 100, 101] : List UInt8)) = false := bne_eq_false_iff_eq.mpr c25
                                                  clear c25
                                                  simp only [Option.some.injEq, Prod.mk.injEq] at H
                                                  obtain ⟨rfl, rfl⟩ := H
                                                  go_enter Tryd.func21, Tryd.ntmps21
                                                  go_wp2
                                                  go_ret2
                                                  exact ⟨by first | rfl | (simp; done) | (simp [*]; done), by repeat (first | exact Drawn0.refl _ | apply Drawn0.step)⟩
                                                · rw [if_neg c25] at H
                                                  have c25b0 : (a0.toList == ([76, 101, 102, 116, 84, 105, 108, 100, 101] : List UInt8)) = false := beq_eq_false_iff_ne.mpr c25
                                                  have c25b1 : (a0.toList != ([76, 101, 102, 116, 84, 105, 108, 100, 101] : List UInt8)) = true := bne_iff_ne.mpr c25
                                                  by_cases c26 : a0.toList = ([76, 101, 102, 116, 67, 114, 76, 102, 72, 116, 86, 116] : List UInt8)
                                                  · rw [if_pos c26] at H
                                                    have c26b0 : (a0.toList == ([76, 101, 102, 116, 67, 114, 76, 102, 72, 116, 86, 116] : List UInt8)) = true := beq_iff_eq.mpr c26
                                                    have c26b1 : (a0.toList != ([76, 101, 102, 116, 67, 114, 76, 102, 72, 116, 86, 116] : List UInt8)) = false := bne_eq_false_iff_eq.mpr c26
                                                    clear c26
                                                    simp only [Option.some.injEq, Prod.mk.injEq] at H
                                                    obtain ⟨rfl, rfl⟩ := H
                                                    go_enter Tryd.func21, Tryd.ntmps21
                                                    go_wp2
                                                    go_ret2
                                                    exact ⟨by first | rfl | (simp; done) | (simp [*]; done), by repeat (first | exact Drawn0.refl _ | apply Drawn0.step)⟩
                                                  · rw [if_neg c26] at H
                                                    have c26b0 : (a0.toList == ([76, 101, 102, 116, 67, 114, 76, 102, 72, 116, 86, 116] : List UInt8)) = false := beq_eq_false_iff_ne.mpr c26
                                                    have c26b1 : (a0.toList != ([76, 101, 102, 116, 67, 114, 76, 102, 72, 116, 86, 116] : List UInt8)) = true := bne_iff_ne.mpr c26
                                                    by_cases c27 : a0.toList = ([82, 105, 103, 104, 116, 83, 112, 97, 99, 101] : List UInt8)
                                                    · rw [if_pos c27] at H
                                                      have c27b0 : (a0.toList == ([82, 105, 103, 104, 116, 83, 112, 97, 99, 101] : List UInt8)) = true := beq_iff_eq.mpr c27
                                                      have c27b1 : (a0.toList != ([82, 105, 103, 104, 116, 83, 112, 97, 99, 101] : List UInt8)) = false := bne_eq_false_iff_eq.mpr c27
                                                      clear c27
                                                      simp only [Option.some.injEq, Prod.mk.injEq] at H
                                                      obtain ⟨rfl, rfl⟩ := H
                                                      go_enter Tryd.func21, Tryd.ntmps21
                                                      go_wp2
                                                      go_ret2
                                                      exact ⟨by first | rfl | (simp; done) | (simp [*]; done), by repeat (first | exact Drawn0.refl _ | apply Drawn0.step)⟩
                                                    · rw [if_neg c27] at H
                                                      have c27b0 : (a0.toList == ([82, 105, 103, 104, 116, 83, 112, 97, 99, 101] : List UInt8)) = false := beq_eq_false_iff_ne.mpr c27
                                                      have c27b1 : (a0.toList != ([82, 105, 103, 104, 116, 83, 112, 97, 99, 101] : List UInt8)) = true := bne_iff_ne.mpr c27
                                                      by_cases c28 : a0.toList = ([82, 105, 103, 104, 116, 80, 101, 114, 105, 111, 100] : List UInt8)
                                                      · rw [if_pos c28] at H
                                                        have c28b0 : (a0.toList == ([82, 105, 103, 104, 116, 80, 101, 114, 105, 111, 100] : List UInt8)) = true := beq_iff_eq.mpr c28
                                                        have c28b1 : (a0.toList != ([82, 105, 103, 104, 116, 80, 101, 114, 105, 111, 100] : List UInt8)) = false := bne_eq_false_iff_eq.mpr c28
                                                        clear c28
                                                        simp only [Option.some.injEq, Prod.mk.injEq] at H
                                                        obtain ⟨rfl, rfl⟩ := H
                                                        go_enter Tryd.func21, Tryd.ntmps21
                                                        go_wp2
                                                        go_ret2
                                                        exact ⟨by first | rfl | (simp; done) | (simp [*]; done), by repeat (first | exact Drawn0.refl _ | apply Drawn0.step)⟩
                                                      · rw [if_neg c28] at H
                                                        have c28b0 : (a0.toList == ([82, 105, 103, 104, 116, 80, 101, 114, 105, 111, 100] : List UInt8)) = false := beq_eq_false_iff_ne.mpr c28
                                                        have c28b1 : (a0.toList != ([82, 105, 103, 104, 116, 80, 101, 114, 105, 111, 100] : List UInt8)) = true := bne_iff_ne.mpr c28
                                                        by_cases c29 : a0.toList = ([82, 105, 103, 104, 116, 67, 114, 76, 102, 72, 116, 86, 116] : List UInt8)
                                                        · rw [if_pos c29] at H
                                                          have c29b0 : (a0.toList == ([82, 105, 103, 104, 116, 67, 114, 76, 102, 72, 116, 86, 116] : List UInt8)) = true := beq_iff_eq.mpr c29
                                                          have c29b1 : (a0.toList != ([82, 105, 103, 104, 116, 67, 114, 76, 102, 72, 116, 86, 116] : List UInt8)) = false := bne_eq_false_iff_eq.mpr c29
                                                          clear c29
                                                          simp only [Option.some.injEq, Prod.mk.injEq] at H
                                                          obtain ⟨rfl, rfl⟩ := H
                                                          go_enter Tryd.func21, Tryd.ntmps21
                                                          go_wp2
                                                          go_ret2
                                                          exact ⟨by first | rfl | (simp; done) | (simp [*]; done), by repeat (first | exact Drawn0.refl _ | apply Drawn0.step)⟩
                                                        · rw [if_neg c29] at H
                                                          have c29b0 : (a0.toList == ([82, 105, 103, 104, 116, 67, 114, 76, 102, 72, 116, 86, 116] : List UInt8)) = false := beq_eq_false_iff_ne.mpr c29
                                                          have c29b1 : (a0.toList != ([82, 105, 103, 104, 116, 67, 114, 76, 102, 72, 116, 86, 116] : List UInt8)) = true := bne_iff_ne.mpr c29
                                                          by_cases c30 : a0.toList = ([73, 110, 118, 97, 108, 105, 100, 85, 116, 102, 56] : List UInt8)
                                                          · rw [if_pos c30] at H
                                                            have c30b0 : (a0.toList == ([73, 110, 118, 97, 108, 105, 100, 85, 116, 102, 56] : List UInt8)) = true := beq_iff_eq.mpr c30
                                                            have c30b1 : (a0.toList != ([73, 110, 118, 97, 108, 105, 100, 85, 116, 102, 56] : List UInt8)) = false := bne_eq_false_iff_eq.mpr c30
                                                            clear c30
                                                            simp only [Option.some.injEq, Prod.mk.injEq] at H
                                                            obtain ⟨rfl, rfl⟩ := H
                                                            go_enter Tryd.func21, Tryd.ntmps21
                                                            go_wp2
                                                            go_ret2
                                                            exact ⟨by first | rfl | (simp; done) | (simp [*]; done), by repeat (first | exact Drawn0.refl _ | apply Drawn0.step)⟩
                                                          · rw [if_neg c30] at H
                                                            have c30b0 : (a0.toList == ([73, 110, 118, 97, 108, 105, 100, 85, 116, 102, 56] : List UInt8)) = false := beq_eq_false_iff_ne.mpr c30
                                                            have c30b1 : (a0.toList != ([73, 110, 118, 97, 108, 105, 100, 85, 116, 102, 56] : List UInt8)) = true := bne_iff_ne.mpr c30
                                                            by_cases c31 : a0.toList = ([68, 111, 116] : List UInt8)
                                                            · rw [if_pos c31] at H
                                                              have c31b0 : (a0.toList == ([68, 111, 116] : List UInt8)) = true := beq_iff_eq.mpr c31
                                                              have c31b1 : (a0.toList != ([68, 111, 116] : List UInt8)) = false := bne_eq_false_iff_eq.mpr c31
                                                              clear c31
                                                              simp only [Option.some.injEq, Prod.mk.injEq] at H
                                                              obtain ⟨rfl, rfl⟩ := H
                                                              go_enter Tryd.func21, Tryd.ntmps21
                                                              go_wp2
                                                              go_ret2
                                                              exact ⟨by first | rfl | (simp; done) | (simp [*]; done), by repeat (first | exact Drawn0.refl _ | apply Drawn0.step)⟩
                                                            · rw [if_neg c31] at H
                                                              have c31b0 : (a0.toList == ([68, 111, 116] : List UInt8)) = false := beq_eq_false_iff_ne.mpr c31
                                                              have c31b1 : (a0.toList != ([68, 111, 116] : List UInt8)) = true := bne_iff_ne.mpr c31
                                                              simp only [Option.some.injEq, Prod.mk.injEq] at H
                                                              obtain ⟨rfl, rfl⟩ := H
                                                              go_enter Tryd.func21, Tryd.ntmps21
                                                              go_wp2
                                                              go_ret2
                                                              exact ⟨by first | rfl | (simp; done) | (simp [*]; done), by repeat (first | exact Drawn0.refl _ | apply Drawn0.step)⟩

end Go.Proofs.YtjabjcgomnjpcaaDoor.PM
