-- Written by a program of this session out of the translation; Lean checks it.
import Derived.Test.YtlnkgifpiinnoaaQ0
namespace Go.Proofs.Ytlnkgifpiinnoaa.Q
open Go.RowKit Go.Proofs.Ytlnkgifpiinnoaa.Ky Go.Proofs.YtlnkgifpiinnoaaW.PrintWords Go.Proofs.YtlnkgifpiinnoaaW.PrintLast Go.Proofs.YtlnkgifpiinnoaaW.PrintMore
attribute [local go_sem] max2_int min2_int max_two min_two max_three min_three max_four min_four   -- for this text's walks alone
set_option linter.unusedVariables false
set_option linter.unusedSimpArgs false

/-! ### spec_Basic: function 7 -/
def spec_Basic.f (a0 : Int) : Option (Bool) := if a0 = 121 then (some true) else (if a0 = 98 then (some true) else (if a0 = 110 then (some true) else (if a0 = 113 then (some true) else (if a0 = 105 then (some true) else (if a0 = 117 then (some true) else (if a0 = 120 then (some true) else (if a0 = 116 then (some true) else (if a0 = 100 then (some true) else (if a0 = 115 then (some true) else (if a0 = 111 then (some true) else (if a0 = 103 then (some true) else (if a0 = 104 then (some true) else (some false)))))))))))))
set_option maxHeartbeats 8000000 in
set_option maxRecDepth 100000 in
theorem spec_Basic.calls (a0 : Int) (r : Bool) (w : World) (h : spec_Basic.f a0 = some r) :
    Calls Try.prog 7 #[.int .u8 a0] w fun e w' => e = .returned (.bool r) ∧ Drawn0 w w' := by
  have H : (if a0 = 121 then (some true) else (if a0 = 98 then (some true) else (if a0 = 110 then (some true) else (if a0 = 113 then (some true) else (if a0 = 105 then (some true) else (if a0 = 117 then (some true) else (if a0 = 120 then (some true) else (if a0 = 116 then (some true) else (if a0 = 100 then (some true) else (if a0 = 115 then (some true) else (if a0 = 111 then (some true) else (if a0 = 103 then (some true) else (if a0 = 104 then (some true) else (some false)))))))))))))) = some r := h
  clear h
  by_cases c2 : a0 = 121
  · rw [if_pos c2] at H
    have c2b0 : (a0 == 121) = true := beq_iff_eq.mpr c2
    have c2b1 : (a0 != 121) = false := bne_eq_false_iff_eq.mpr c2
    clear c2
    obtain rfl := Option.some.inj H
    go_enter Try.func7, Try.ntmps7
    go_wp2
    go_ret
    exact ⟨by first | rfl | (simp; done) | (simp [*]; done), by repeat (first | exact Drawn0.refl _ | apply Drawn0.step)⟩
  · rw [if_neg c2] at H
    have c2b0 : (a0 == 121) = false := beq_eq_false_iff_ne.mpr c2
    have c2b1 : (a0 != 121) = true := bne_iff_ne.mpr c2
    by_cases c3 : a0 = 98
    · rw [if_pos c3] at H
      have c3b0 : (a0 == 98) = true := beq_iff_eq.mpr c3
      have c3b1 : (a0 != 98) = false := bne_eq_false_iff_eq.mpr c3
      clear c3
      obtain rfl := Option.some.inj H
      go_enter Try.func7, Try.ntmps7
      go_wp2
      go_ret
      exact ⟨by first | rfl | (simp; done) | (simp [*]; done), by repeat (first | exact Drawn0.refl _ | apply Drawn0.step)⟩
    · rw [if_neg c3] at H
      have c3b0 : (a0 == 98) = false := beq_eq_false_iff_ne.mpr c3
      have c3b1 : (a0 != 98) = true := bne_iff_ne.mpr c3
      by_cases c4 : a0 = 110
      · rw [if_pos c4] at H
        have c4b0 : (a0 == 110) = true := beq_iff_eq.mpr c4
        have c4b1 : (a0 != 110) = false := bne_eq_false_iff_eq.mpr c4
        clear c4
        obtain rfl := Option.some.inj H
        go_enter Try.func7, Try.ntmps7
        go_wp2
        go_ret
        exact ⟨by first | rfl | (simp; done) | (simp [*]; done), by repeat (first | exact Drawn0.refl _ | apply Drawn0.step)⟩
      · rw [if_neg c4] at H
        have c4b0 : (a0 == 110) = false := beq_eq_false_iff_ne.mpr c4
        have c4b1 : (a0 != 110) = true := bne_iff_ne.mpr c4
        by_cases c5 : a0 = 113
        · rw [if_pos c5] at H
          have c5b0 : (a0 == 113) = true := beq_iff_eq.mpr c5
          have c5b1 : (a0 != 113) = false := bne_eq_false_iff_eq.mpr c5
          clear c5
          obtain rfl := Option.some.inj H
          go_enter Try.func7, Try.ntmps7
          go_wp2
          go_ret
          exact ⟨by first | rfl | (simp; done) | (simp [*]; done), by repeat (first | exact Drawn0.refl _ | apply Drawn0.step)⟩
        · rw [if_neg c5] at H
          have c5b0 : (a0 == 113) = false := beq_eq_false_iff_ne.mpr c5
          have c5b1 : (a0 != 113) = true := bne_iff_ne.mpr c5
          by_cases c6 : a0 = 105
          · rw [if_pos c6] at H
            have c6b0 : (a0 == 105) = true := beq_iff_eq.mpr c6
            have c6b1 : (a0 != 105) = false := bne_eq_false_iff_eq.mpr c6
            clear c6
            obtain rfl := Option.some.inj H
            go_enter Try.func7, Try.ntmps7
            go_wp2
            go_ret
            exact ⟨by first | rfl | (simp; done) | (simp [*]; done), by repeat (first | exact Drawn0.refl _ | apply Drawn0.step)⟩
          · rw [if_neg c6] at H
            have c6b0 : (a0 == 105) = false := beq_eq_false_iff_ne.mpr c6
            have c6b1 : (a0 != 105) = true := bne_iff_ne.mpr c6
            by_cases c7 : a0 = 117
            · rw [if_pos c7] at H
              have c7b0 : (a0 == 117) = true := beq_iff_eq.mpr c7
              have c7b1 : (a0 != 117) = false := bne_eq_false_iff_eq.mpr c7
              clear c7
              obtain rfl := Option.some.inj H
              go_enter Try.func7, Try.ntmps7
              go_wp2
              go_ret
              exact ⟨by first | rfl | (simp; done) | (simp [*]; done), by repeat (first | exact Drawn0.refl _ | apply Drawn0.step)⟩
            · rw [if_neg c7] at H
              have c7b0 : (a0 == 117) = false := beq_eq_false_iff_ne.mpr c7
              have c7b1 : (a0 != 117) = true := bne_iff_ne.mpr c7
              by_cases c8 : a0 = 120
              · rw [if_pos c8] at H
                have c8b0 : (a0 == 120) = true := beq_iff_eq.mpr c8
                have c8b1 : (a0 != 120) = false := bne_eq_false_iff_eq.mpr c8
                clear c8
                obtain rfl := Option.some.inj H
                go_enter Try.func7, Try.ntmps7
                go_wp2
                go_ret
                exact ⟨by first | rfl | (simp; done) | (simp [*]; done), by repeat (first | exact Drawn0.refl _ | apply Drawn0.step)⟩
              · rw [if_neg c8] at H
                have c8b0 : (a0 == 120) = false := beq_eq_false_iff_ne.mpr c8
                have c8b1 : (a0 != 120) = true := bne_iff_ne.mpr c8
                by_cases c9 : a0 = 116
                · rw [if_pos c9] at H
                  have c9b0 : (a0 == 116) = true := beq_iff_eq.mpr c9
                  have c9b1 : (a0 != 116) = false := bne_eq_false_iff_eq.mpr c9
                  clear c9
                  obtain rfl := Option.some.inj H
                  go_enter Try.func7, Try.ntmps7
                  go_wp2
                  go_ret
                  exact ⟨by first | rfl | (simp; done) | (simp [*]; done), by repeat (first | exact Drawn0.refl _ | apply Drawn0.step)⟩
                · rw [if_neg c9] at H
                  have c9b0 : (a0 == 116) = false := beq_eq_false_iff_ne.mpr c9
                  have c9b1 : (a0 != 116) = true := bne_iff_ne.mpr c9
                  by_cases c10 : a0 = 100
                  · rw [if_pos c10] at H
                    have c10b0 : (a0 == 100) = true := beq_iff_eq.mpr c10
                    have c10b1 : (a0 != 100) = false := bne_eq_false_iff_eq.mpr c10
                    clear c10
                    obtain rfl := Option.some.inj H
                    go_enter Try.func7, Try.ntmps7
                    go_wp2
                    go_ret
                    exact ⟨by first | rfl | (simp; done) | (simp [*]; done), by repeat (first | exact Drawn0.refl _ | apply Drawn0.step)⟩
                  · rw [if_neg c10] at H
                    have c10b0 : (a0 == 100) = false := beq_eq_false_iff_ne.mpr c10
                    have c10b1 : (a0 != 100) = true := bne_iff_ne.mpr c10
                    by_cases c11 : a0 = 115
                    · rw [if_pos c11] at H
                      have c11b0 : (a0 == 115) = true := beq_iff_eq.mpr c11
                      have c11b1 : (a0 != 115) = false := bne_eq_false_iff_eq.mpr c11
                      clear c11
                      obtain rfl := Option.some.inj H
                      go_enter Try.func7, Try.ntmps7
                      go_wp2
                      go_ret
                      exact ⟨by first | rfl | (simp; done) | (simp [*]; done), by repeat (first | exact Drawn0.refl _ | apply Drawn0.step)⟩
                    · rw [if_neg c11] at H
                      have c11b0 : (a0 == 115) = false := beq_eq_false_iff_ne.mpr c11
                      have c11b1 : (a0 != 115) = true := bne_iff_ne.mpr c11
                      by_cases c12 : a0 = 111
                      · rw [if_pos c12] at H
                        have c12b0 : (a0 == 111) = true := beq_iff_eq.mpr c12
                        have c12b1 : (a0 != 111) = false := bne_eq_false_iff_eq.mpr c12
                        clear c12
                        obtain rfl := Option.some.inj H
                        go_enter Try.func7, Try.ntmps7
                        go_wp2
                        go_ret
                        exact ⟨by first | rfl | (simp; done) | (simp [*]; done), by repeat (first | exact Drawn0.refl _ | apply Drawn0.step)⟩
                      · rw [if_neg c12] at H
                        have c12b0 : (a0 == 111) = false := beq_eq_false_iff_ne.mpr c12
                        have c12b1 : (a0 != 111) = true := bne_iff_ne.mpr c12
                        by_cases c13 : a0 = 103
                        · rw [if_pos c13] at H
                          have c13b0 : (a0 == 103) = true := beq_iff_eq.mpr c13
                          have c13b1 : (a0 != 103) = false := bne_eq_false_iff_eq.mpr c13
                          clear c13
                          obtain rfl := Option.some.inj H
                          go_enter Try.func7, Try.ntmps7
                          go_wp2
                          go_ret
                          exact ⟨by first | rfl | (simp; done) | (simp [*]; done), by repeat (first | exact Drawn0.refl _ | apply Drawn0.step)⟩
                        · rw [if_neg c13] at H
                          have c13b0 : (a0 == 103) = false := beq_eq_false_iff_ne.mpr c13
                          have c13b1 : (a0 != 103) = true := bne_iff_ne.mpr c13
                          by_cases c14 : a0 = 104
                          · rw [if_pos c14] at H
                            have c14b0 : (a0 == 104) = true := beq_iff_eq.mpr c14
                            have c14b1 : (a0 != 104) = false := bne_eq_false_iff_eq.mpr c14
                            clear c14
                            obtain rfl := Option.some.inj H
                            go_enter Try.func7, Try.ntmps7
                            go_wp2
                            go_ret
                            exact ⟨by first | rfl | (simp; done) | (simp [*]; done), by repeat (first | exact Drawn0.refl _ | apply Drawn0.step)⟩
                          · rw [if_neg c14] at H
                            have c14b0 : (a0 == 104) = false := beq_eq_false_iff_ne.mpr c14
                            have c14b1 : (a0 != 104) = true := bne_iff_ne.mpr c14
                            obtain rfl := Option.some.inj H
                            go_enter Try.func7, Try.ntmps7
                            go_wp2
                            go_ret
                            exact ⟨by first | rfl | (simp; done) | (simp [*]; done), by repeat (first | exact Drawn0.refl _ | apply Drawn0.step)⟩

end Go.Proofs.Ytlnkgifpiinnoaa.Q
