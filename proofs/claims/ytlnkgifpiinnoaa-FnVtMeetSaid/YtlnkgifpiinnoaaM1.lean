-- Written by a program of this session out of the translation; Lean checks it.
import Derived.Test.YtlnkgifpiinnoaaM0
namespace Go.Proofs.Ytlnkgifpiinnoaa.M
open Go.RowKit Go.Proofs.Ytlnkgifpiinnoaa.Vm Go.Proofs.YtlnkgifpiinnoaaW.PrintWords Go.Proofs.YtlnkgifpiinnoaaW.PrintLast Go.Proofs.YtlnkgifpiinnoaaW.PrintMore
attribute [local go_sem] max2_int min2_int max_two min_two max_three min_three max_four min_four   -- for this text's walks alone
set_option linter.unusedVariables false
set_option linter.unusedSimpArgs false

/-! ### laws_zzFits5: function 8 -/
def laws_zzFits5.l0 : Nat → List ByteArray → Int → Int → Option (Bool)
  | 0, _, _, _ => none
  | k + 1, x8, x9, x10 => if x10 < x9 then (if 0 ≤ x10 then (if x10 < (x8.length : Int) then (if ((rdOf ByteArray.empty x8 x10).size : Int) > 2147483647 then (some false) else (laws_zzFits5.l0 k x8 x9 (wrap64 (x10 + 1)))) else (none)) else (none)) else (some true)
def laws_zzFits5.f (k : Nat) (l0 : List ByteArray) : Option (Bool) := if (l0.length : Int) > 2147483647 then (some false) else (laws_zzFits5.l0 k l0 (l0.length : Int) 0)
theorem laws_zzFits5.mono_l : ∀ k, (∀ y0 y1 y2, LeO (laws_zzFits5.l0 k y0 y1 y2) (laws_zzFits5.l0 (k + 1) y0 y1 y2))
  | 0 => fun _ _ _ r h => by simp [laws_zzFits5.l0] at h
  | k + 1 => by
    have ih0 := laws_zzFits5.mono_l k
    · intro y0 y1 y2
      unfold laws_zzFits5.l0
      repeat' first
      | (with_reducible exact ih0 _ _ _)
      | (with_reducible exact LeO.refl _)
      | (with_reducible exact LeO.none _)
      | (with_reducible refine LeO.ite ?_ ?_)
      | (with_reducible refine LeO.bind ?_ (fun _ => ?_))
      | exact ih0 _ _ _
      | exact LeO.none _
      | refine LeO.ite ?_ ?_
      | refine LeO.bind ?_ (fun _ => ?_)
theorem laws_zzFits5.mono : ∀ a0 k, LeO (laws_zzFits5.f k a0) (laws_zzFits5.f (k + 1) a0) := by
  intro a0 k
  have ih0 := laws_zzFits5.mono_l k
  unfold laws_zzFits5.f
  repeat' first
      | (with_reducible exact ih0 _ _ _)
      | (with_reducible exact LeO.refl _)
      | (with_reducible exact LeO.none _)
      | (with_reducible refine LeO.ite ?_ ?_)
      | (with_reducible refine LeO.bind ?_ (fun _ => ?_))
      | exact ih0 _ _ _
      | exact LeO.none _
      | refine LeO.ite ?_ ?_
      | refine LeO.bind ?_ (fun _ => ?_)
set_option maxHeartbeats 8000000 in
set_option maxRecDepth 100000 in
theorem laws_zzFits5.calls (k : Nat) (A0 : Option Addr) (c0 : Nat) (l0 : List ByteArray) (r : Bool) (w : World) (hr0 : Kd.C Kd.string w A0 l0.length l0) (hc0 : l0.length ≤ c0) (h : laws_zzFits5.f k l0 = some r) :
    Calls Try.prog 8 #[.slice A0 l0.length c0] w fun e w' => e = .returned (.bool r) ∧ Drawn0 w w' := by
  have HR0 := Aside0.mk hr0
  have HC0 := Aside0.mk hc0
  clear hr0 hc0
  have H : (if (l0.length : Int) > 2147483647 then (some false) else (laws_zzFits5.l0 k l0 (l0.length : Int) 0)) = some r := h
  clear h
  by_cases c2 : (l0.length : Int) > 2147483647
  · rw [if_pos c2] at H
    have c2b0 : decide (2147483647 < (l0.length : Int)) = true := decide_eq_true c2
    have c2b1 : decide (2147483647 < l0.length) = true := decide_eq_true (by omega)
    clear c2
    obtain rfl := Option.some.inj H
    go_enter Try.func8, Try.ntmps8
    go_wp2
    go_ret
    exact ⟨by first | rfl | (simp; done) | (simp [*]; done), by repeat (first | exact Drawn0.refl _ | apply Drawn0.step)⟩
  · rw [if_neg c2] at H
    have c2b0 : decide (2147483647 < (l0.length : Int)) = false := decide_eq_false c2
    have c2b1 : decide (2147483647 < l0.length) = false := decide_eq_false (by omega)
    clear c2
    have H' := Aside0.mk H
    clear H
    go_enter Try.func8, Try.ntmps8
    go_wp2
    go_loopg [10] k (fun kq v10 w' => ∃ (x10_1 : Int), v10 = .int .i64 x10_1 ∧ Aside0 (laws_zzFits5.l0 kq l0 (l0.length : Int) x10_1 = some r) ∧ Aside0 (kq ≤ k) ∧ Drawn0 w w')
    case atStart => exact ⟨(0), (by first | rfl | (simp; done) | (simp [*]; done)), H', ⟨Nat.le_refl _⟩, by repeat (first | exact Drawn0.refl _ | apply Drawn0.step)⟩
    case round =>
      clear H'
      try clear c2
      try clear c2b0
      try clear c2b1
      try clear p2
      obtain ⟨x10_1, rfl, HA, HK1, ⟨m1, rfl⟩⟩ := hrel
      cases gk with
      | zero => exact absurd HA.out (by simp [laws_zzFits5.l0])
      | succ k1 =>
        have H := HA.out
        clear HA
        simp only [laws_zzFits5.l0] at H
        by_cases c3 : x10_1 < (l0.length : Int)
        · rw [if_pos c3] at H
          have c3b0 : decide (x10_1 < (l0.length : Int)) = true := decide_eq_true c3
          clear c3
          by_cases c4 : 0 ≤ x10_1
          · rw [if_pos c4] at H
            have c4b0 : decide (0 ≤ x10_1) = true := decide_eq_true c4
            clear c4
            by_cases c5 : x10_1 < (l0.length : Int)
            · rw [if_pos c5] at H
              have c5b0 : decide (x10_1 < (l0.length : Int)) = true := decide_eq_true c5
              clear c5
              by_cases c6 : ((rdOf ByteArray.empty l0 x10_1).size : Int) > 2147483647
              · rw [if_pos c6] at H
                have c6b0 : decide (2147483647 < ((rdOf ByteArray.empty l0 x10_1).size : Int)) = true := decide_eq_true c6
                have c6b1 : decide (2147483647 < (rdOf ByteArray.empty l0 x10_1).size) = true := decide_eq_true (by omega)
                clear c6
                obtain rfl := Option.some.inj H
                have p101 : 0 ≤ (x10_1 : Int) := of_decide_eq_true (by first | (with_reducible assumption) | assumption)
                have q101 : x10_1 < (l0.length : Int) := of_decide_eq_true (by first | (with_reducible assumption) | assumption)
                obtain ⟨ad101, e101, hx101_0⟩ := Kd.at_string HR0.out x10_1 p101 q101
                cases e101
                replace p101 := eq_true p101
                replace q101 := eq_true q101
                go_wp2
                go_ret
                exact ⟨by first | rfl | (simp; done) | (simp [*]; done), by repeat (first | exact Drawn0.refl _ | apply Drawn0.step)⟩
              · rw [if_neg c6] at H
                have c6b0 : decide (2147483647 < ((rdOf ByteArray.empty l0 x10_1).size : Int)) = false := decide_eq_false c6
                have c6b1 : decide (2147483647 < (rdOf ByteArray.empty l0 x10_1).size) = false := decide_eq_false (by omega)
                clear c6
                have H' := Aside0.mk H
                clear H
                have p101 : 0 ≤ (x10_1 : Int) := of_decide_eq_true (by first | (with_reducible assumption) | assumption)
                have q101 : x10_1 < (l0.length : Int) := of_decide_eq_true (by first | (with_reducible assumption) | assumption)
                obtain ⟨ad101, e101, hx101_0⟩ := Kd.at_string HR0.out x10_1 p101 q101
                cases e101
                replace p101 := eq_true p101
                replace q101 := eq_true q101
                go_wp2
                go_roundg k1
                case measure => have := HK1.out; omega
                case rel => exact ⟨(wrap64 (x10_1 + 1)), (by first | rfl | (simp; done) | (simp [*]; done)), H', ⟨by have := HK1.out; omega⟩, by repeat (first | exact Drawn0.refl _ | apply Drawn0.step)⟩
            · rw [if_neg c5] at H
              exact absurd H (by simp)
          · rw [if_neg c4] at H
            exact absurd H (by simp)
        · rw [if_neg c3] at H
          have c3b0 : decide (x10_1 < (l0.length : Int)) = false := decide_eq_false c3
          clear c3
          obtain rfl := Option.some.inj H
          go_wp2
          go_ret
          exact ⟨by first | rfl | (simp; done) | (simp [*]; done), by repeat (first | exact Drawn0.refl _ | apply Drawn0.step)⟩

/-! ### spec_Basic: function 7 -/
def spec_Basic.f (a0 : Int) : Option (Bool) := if a0 = 121 then (some true) else (if a0 = 98 then (some true) else (if a0 = 110 then (some true) else (if a0 = 113 then (some true) else (if a0 = 105 then (some true) else (if a0 = 117 then (some true) else (if a0 = 120 then (some true) else (if a0 = 116 then (some true) else (if a0 = 100 then (some true) else (if a0 = 115 then (some true) else (if a0 = 111 then (some true) else (if a0 = 103 then (some true) else (if a0 = 104 then (some true) else (some false)))))))))))))
set_option maxHeartbeats 8000000 in
set_option maxRecDepth 100000 in
theorem spec_Basic.calls (a0 : Int) (r : Bool) (w : World) (h : spec_Basic.f a0 = some r) :
    Calls Try.prog 7 #[.int .u8 a0] w fun e w' => e = .returned (.bool r) ∧ Drawn0 w w' := by
  have H : (if a0 = 121 then (some true) else (if a0 = 98 then (some true) else (if a0 = 110 then (some true) else (if a0 = 113 then (some true) else (if a0 = 105 then (some true) else (if a0 = 117 then (some true) else (if a0 = 120 then (some true) else (if a0 = 116 then (some true) else (if a0 = 100 then (some true) else (if a0 = 115 then (some true) else (if a0 = 111 then (some true) else (if a0 = 103 then (some true) else (if a0 = 104 then (some true) else (some false)))))))))))))) = some r := h
  clear h
  by_cases c2 : a0 = 121
  · rw [if_pos c2] at H
    have c2b0 : (a0 == 121) = true := beq_iff_eq.mpr c2
    have c2b1 : (a0 != 121) = false := bne_eq_false_iff_eq.mpr c2
    clear c2
    obtain rfl := Option.some.inj H
    go_enter Try.func7, Try.ntmps7
    go_wp2
    go_ret
    exact ⟨by first | rfl | (simp; done) | (simp [*]; done), by repeat (first | exact Drawn0.refl _ | apply Drawn0.step)⟩
  · rw [if_neg c2] at H
    have c2b0 : (a0 == 121) = false := beq_eq_false_iff_ne.mpr c2
    have c2b1 : (a0 != 121) = true := bne_iff_ne.mpr c2
    by_cases c3 : a0 = 98
    · rw [if_pos c3] at H
      have c3b0 : (a0 == 98) = true := beq_iff_eq.mpr c3
      have c3b1 : (a0 != 98) = false := bne_eq_false_iff_eq.mpr c3
      clear c3
      obtain rfl := Option.some.inj H
      go_enter Try.func7, Try.ntmps7
      go_wp2
      go_ret
      exact ⟨by first | rfl | (simp; done) | (simp [*]; done), by repeat (first | exact Drawn0.refl _ | apply Drawn0.step)⟩
    · rw [if_neg c3] at H
      have c3b0 : (a0 == 98) = false := beq_eq_false_iff_ne.mpr c3
      have c3b1 : (a0 != 98) = true := bne_iff_ne.mpr c3
      by_cases c4 : a0 = 110
      · rw [if_pos c4] at H
        have c4b0 : (a0 == 110) = true := beq_iff_eq.mpr c4
        have c4b1 : (a0 != 110) = false := bne_eq_false_iff_eq.mpr c4
        clear c4
        obtain rfl := Option.some.inj H
        go_enter Try.func7, Try.ntmps7
        go_wp2
        go_ret
        exact ⟨by first | rfl | (simp; done) | (simp [*]; done), by repeat (first | exact Drawn0.refl _ | apply Drawn0.step)⟩
      · rw [if_neg c4] at H
        have c4b0 : (a0 == 110) = false := beq_eq_false_iff_ne.mpr c4
        have c4b1 : (a0 != 110) = true := bne_iff_ne.mpr c4
        by_cases c5 : a0 = 113
        · rw [if_pos c5] at H
          have c5b0 : (a0 == 113) = true := beq_iff_eq.mpr c5
          have c5b1 : (a0 != 113) = false := bne_eq_false_iff_eq.mpr c5
          clear c5
          obtain rfl := Option.some.inj H
          go_enter Try.func7, Try.ntmps7
          go_wp2
          go_ret
          exact ⟨by first | rfl | (simp; done) | (simp [*]; done), by repeat (first | exact Drawn0.refl _ | apply Drawn0.step)⟩
        · rw [if_neg c5] at H
          have c5b0 : (a0 == 113) = false := beq_eq_false_iff_ne.mpr c5
          have c5b1 : (a0 != 113) = true := bne_iff_ne.mpr c5
          by_cases c6 : a0 = 105
          · rw [if_pos c6] at H
            have c6b0 : (a0 == 105) = true := beq_iff_eq.mpr c6
            have c6b1 : (a0 != 105) = false := bne_eq_false_iff_eq.mpr c6
            clear c6
            obtain rfl := Option.some.inj H
            go_enter Try.func7, Try.ntmps7
            go_wp2
            go_ret
            exact ⟨by first | rfl | (simp; done) | (simp [*]; done), by repeat (first | exact Drawn0.refl _ | apply Drawn0.step)⟩
          · rw [if_neg c6] at H
            have c6b0 : (a0 == 105) = false := beq_eq_false_iff_ne.mpr c6
            have c6b1 : (a0 != 105) = true := bne_iff_ne.mpr c6
            by_cases c7 : a0 = 117
            · rw [if_pos c7] at H
              have c7b0 : (a0 == 117) = true := beq_iff_eq.mpr c7
              have c7b1 : (a0 != 117) = false := bne_eq_false_iff_eq.mpr c7
              clear c7
              obtain rfl := Option.some.inj H
              go_enter Try.func7, Try.ntmps7
              go_wp2
              go_ret
              exact ⟨by first | rfl | (simp; done) | (simp [*]; done), by repeat (first | exact Drawn0.refl _ | apply Drawn0.step)⟩
            · rw [if_neg c7] at H
              have c7b0 : (a0 == 117) = false := beq_eq_false_iff_ne.mpr c7
              have c7b1 : (a0 != 117) = true := bne_iff_ne.mpr c7
              by_cases c8 : a0 = 120
              · rw [if_pos c8] at H
                have c8b0 : (a0 == 120) = true := beq_iff_eq.mpr c8
                have c8b1 : (a0 != 120) = false := bne_eq_false_iff_eq.mpr c8
                clear c8
                obtain rfl := Option.some.inj H
                go_enter Try.func7, Try.ntmps7
                go_wp2
                go_ret
                exact ⟨by first | rfl | (simp; done) | (simp [*]; done), by repeat (first | exact Drawn0.refl _ | apply Drawn0.step)⟩
              · rw [if_neg c8] at H
                have c8b0 : (a0 == 120) = false := beq_eq_false_iff_ne.mpr c8
                have c8b1 : (a0 != 120) = true := bne_iff_ne.mpr c8
                by_cases c9 : a0 = 116
                · rw [if_pos c9] at H
                  have c9b0 : (a0 == 116) = true := beq_iff_eq.mpr c9
                  have c9b1 : (a0 != 116) = false := bne_eq_false_iff_eq.mpr c9
                  clear c9
                  obtain rfl := Option.some.inj H
                  go_enter Try.func7, Try.ntmps7
                  go_wp2
                  go_ret
                  exact ⟨by first | rfl | (simp; done) | (simp [*]; done), by repeat (first | exact Drawn0.refl _ | apply Drawn0.step)⟩
                · rw [if_neg c9] at H
                  have c9b0 : (a0 == 116) = false := beq_eq_false_iff_ne.mpr c9
                  have c9b1 : (a0 != 116) = true := bne_iff_ne.mpr c9
                  by_cases c10 : a0 = 100
                  · rw [if_pos c10] at H
                    have c10b0 : (a0 == 100) = true := beq_iff_eq.mpr c10
                    have c10b1 : (a0 != 100) = false := bne_eq_false_iff_eq.mpr c10
                    clear c10
                    obtain rfl := Option.some.inj H
                    go_enter Try.func7, Try.ntmps7
                    go_wp2
                    go_ret
                    exact ⟨by first | rfl | (simp; done) | (simp [*]; done), by repeat (first | exact Drawn0.refl _ | apply Drawn0.step)⟩
                  · rw [if_neg c10] at H
                    have c10b0 : (a0 == 100) = false := beq_eq_false_iff_ne.mpr c10
                    have c10b1 : (a0 != 100) = true := bne_iff_ne.mpr c10
                    by_cases c11 : a0 = 115
                    · rw [if_pos c11] at H
                      have c11b0 : (a0 == 115) = true := beq_iff_eq.mpr c11
                      have c11b1 : (a0 != 115) = false := bne_eq_false_iff_eq.mpr c11
                      clear c11
                      obtain rfl := Option.some.inj H
                      go_enter Try.func7, Try.ntmps7
                      go_wp2
                      go_ret
                      exact ⟨by first | rfl | (simp; done) | (simp [*]; done), by repeat (first | exact Drawn0.refl _ | apply Drawn0.step)⟩
                    · rw [if_neg c11] at H
                      have c11b0 : (a0 == 115) = false := beq_eq_false_iff_ne.mpr c11
                      have c11b1 : (a0 != 115) = true := bne_iff_ne.mpr c11
                      by_cases c12 : a0 = 111
                      · rw [if_pos c12] at H
                        have c12b0 : (a0 == 111) = true := beq_iff_eq.mpr c12
                        have c12b1 : (a0 != 111) = false := bne_eq_false_iff_eq.mpr c12
                        clear c12
                        obtain rfl := Option.some.inj H
                        go_enter Try.func7, Try.ntmps7
                        go_wp2
                        go_ret
                        exact ⟨by first | rfl | (simp; done) | (simp [*]; done), by repeat (first | exact Drawn0.refl _ | apply Drawn0.step)⟩
                      · rw [if_neg c12] at H
                        have c12b0 : (a0 == 111) = false := beq_eq_false_iff_ne.mpr c12
                        have c12b1 : (a0 != 111) = true := bne_iff_ne.mpr c12
                        by_cases c13 : a0 = 103
                        · rw [if_pos c13] at H
                          have c13b0 : (a0 == 103) = true := beq_iff_eq.mpr c13
                          have c13b1 : (a0 != 103) = false := bne_eq_false_iff_eq.mpr c13
                          clear c13
                          obtain rfl := Option.some.inj H
                          go_enter Try.func7, Try.ntmps7
                          go_wp2
                          go_ret
                          exact ⟨by first | rfl | (simp; done) | (simp [*]; done), by repeat (first | exact Drawn0.refl _ | apply Drawn0.step)⟩
                        · rw [if_neg c13] at H
                          have c13b0 : (a0 == 103) = false := beq_eq_false_iff_ne.mpr c13
                          have c13b1 : (a0 != 103) = true := bne_iff_ne.mpr c13
                          by_cases c14 : a0 = 104
                          · rw [if_pos c14] at H
                            have c14b0 : (a0 == 104) = true := beq_iff_eq.mpr c14
                            have c14b1 : (a0 != 104) = false := bne_eq_false_iff_eq.mpr c14
                            clear c14
                            obtain rfl := Option.some.inj H
                            go_enter Try.func7, Try.ntmps7
                            go_wp2
                            go_ret
                            exact ⟨by first | rfl | (simp; done) | (simp [*]; done), by repeat (first | exact Drawn0.refl _ | apply Drawn0.step)⟩
                          · rw [if_neg c14] at H
                            have c14b0 : (a0 == 104) = false := beq_eq_false_iff_ne.mpr c14
                            have c14b1 : (a0 != 104) = true := bne_iff_ne.mpr c14
                            obtain rfl := Option.some.inj H
                            go_enter Try.func7, Try.ntmps7
                            go_wp2
                            go_ret
                            exact ⟨by first | rfl | (simp; done) | (simp [*]; done), by repeat (first | exact Drawn0.refl _ | apply Drawn0.step)⟩

end Go.Proofs.Ytlnkgifpiinnoaa.M
