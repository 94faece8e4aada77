-- Written by a program of this session out of the translation; Lean checks it.
import Derived.Test.YtpndgbiaomglpaaE0
import Derived.Test.YtpndgbiaomglpaaExt3
namespace Go.Proofs.Ytpndgbiaomglpaa.E
open Go.RowKit Go.Proofs.YtpndgbiaomglpaaW.PrintWords Go.Proofs.YtpndgbiaomglpaaW.PrintLast Go.Proofs.YtpndgbiaomglpaaW.PrintMore
attribute [local go_sem] max2_int min2_int max_two min_two max_three min_three max_four min_four   -- for this text's walks alone
set_option linter.unusedVariables false
set_option linter.unusedSimpArgs false

/-! ### dbus_needsEscape: function 35 -/
def dbus_needsEscape.j0 : Nat → Int → Bool → Option (Bool)
  | 0, _, _ => none
  | k + 1, x0, x24 => if x24 = true then (some false) else (if x0 = 45 then (some false) else (if x0 = 95 then (some false) else (if x0 = 47 then (some false) else (if x0 = 92 then (some false) else (if x0 = 46 then (some false) else (if x0 = 42 then (some false) else (some true)))))))
def dbus_needsEscape.f (k : Nat) (a0 : Int) : Option (Bool) := if 97 ≤ a0 then (if a0 ≤ 122 then (dbus_needsEscape.j0 k a0 true) else (if 65 ≤ a0 then (if a0 ≤ 90 then (dbus_needsEscape.j0 k a0 true) else (if 48 ≤ a0 then (dbus_needsEscape.j0 k a0 (decide (a0 ≤ 57))) else (dbus_needsEscape.j0 k a0 false))) else (if 48 ≤ a0 then (dbus_needsEscape.j0 k a0 (decide (a0 ≤ 57))) else (dbus_needsEscape.j0 k a0 false)))) else (if 65 ≤ a0 then (if a0 ≤ 90 then (dbus_needsEscape.j0 k a0 true) else (if 48 ≤ a0 then (dbus_needsEscape.j0 k a0 (decide (a0 ≤ 57))) else (dbus_needsEscape.j0 k a0 false))) else (if 48 ≤ a0 then (dbus_needsEscape.j0 k a0 (decide (a0 ≤ 57))) else (dbus_needsEscape.j0 k a0 false)))
theorem dbus_needsEscape.mono_l : ∀ k, (∀ y0 y1, LeO (dbus_needsEscape.j0 k y0 y1) (dbus_needsEscape.j0 (k + 1) y0 y1))
  | 0 => fun _ _ r h => by simp [dbus_needsEscape.j0] at h
  | k + 1 => by
    have ih0 := dbus_needsEscape.mono_l k
    · intro y0 y1
      unfold dbus_needsEscape.j0
      repeat' first
      | (with_reducible exact ih0 _ _)
      | (with_reducible exact LeO.refl _)
      | (with_reducible exact LeO.none _)
      | (with_reducible refine LeO.ite ?_ ?_)
      | (with_reducible refine LeO.bind ?_ (fun _ => ?_))
      | exact ih0 _ _
      | exact LeO.none _
      | refine LeO.ite ?_ ?_
      | refine LeO.bind ?_ (fun _ => ?_)
theorem dbus_needsEscape.mono : ∀ a0 k, LeO (dbus_needsEscape.f k a0) (dbus_needsEscape.f (k + 1) a0) := by
  intro a0 k
  have ih0 := dbus_needsEscape.mono_l k
  unfold dbus_needsEscape.f
  repeat' first
      | (with_reducible exact ih0 _ _)
      | (with_reducible exact LeO.refl _)
      | (with_reducible exact LeO.none _)
      | (with_reducible refine LeO.ite ?_ ?_)
      | (with_reducible refine LeO.bind ?_ (fun _ => ?_))
      | exact ih0 _ _
      | exact LeO.none _
      | refine LeO.ite ?_ ?_
      | refine LeO.bind ?_ (fun _ => ?_)
set_option maxHeartbeats 8000000 in
set_option maxRecDepth 100000 in
theorem dbus_needsEscape.calls (k : Nat) (a0 : Int) (r : Bool) (w : World) (h : dbus_needsEscape.f k a0 = some r) :
    Calls Try.prog 35 #[.int .u8 a0] w fun e w' => e = .returned (.bool r) ∧ Drawn0 w w' := by
  have H : (if 97 ≤ a0 then (if a0 ≤ 122 then (dbus_needsEscape.j0 k a0 true) else (if 65 ≤ a0 then (if a0 ≤ 90 then (dbus_needsEscape.j0 k a0 true) else (if 48 ≤ a0 then (dbus_needsEscape.j0 k a0 (decide (a0 ≤ 57))) else (dbus_needsEscape.j0 k a0 false))) else (if 48 ≤ a0 then (dbus_needsEscape.j0 k a0 (decide (a0 ≤ 57))) else (dbus_needsEscape.j0 k a0 false)))) else (if 65 ≤ a0 then (if a0 ≤ 90 then (dbus_needsEscape.j0 k a0 true) else (if 48 ≤ a0 then (dbus_needsEscape.j0 k a0 (decide (a0 ≤ 57))) else (dbus_needsEscape.j0 k a0 false))) else (if 48 ≤ a0 then (dbus_needsEscape.j0 k a0 (decide (a0 ≤ 57))) else (dbus_needsEscape.j0 k a0 false)))) = some r := h
  clear h
  have HC2 := Aside0.mk H
  clear H
  go_enter Try.func35, Try.ntmps35
  go_upto_region 1 with (fail)
  go_cut [24] (fun v24 wc => ∃ (kq : Nat) (x24_1 : Bool), v24 = .bool x24_1 ∧ Aside0 (dbus_needsEscape.j0 kq a0 x24_1 = some r) ∧ Aside0 (kq ≤ k) ∧ Drawn0 w wc)
  case first =>
    have H := HC2.out
    clear HC2
    by_cases c3 : 97 ≤ a0
    · rw [if_pos c3] at H
      have c3b0 : decide (97 ≤ a0) = true := decide_eq_true c3
      clear c3
      (first | rw [c3b0] | (simp only [i64_w, i32_w]; rw [c3b0]) | skip)
      by_cases c4 : a0 ≤ 122
      · rw [if_pos c4] at H
        have c4b0 : decide (a0 ≤ 122) = true := decide_eq_true c4
        clear c4
        have H' := Aside0.mk H
        clear H
        go_wp2
        go_meet
        case rel => exact ⟨_, (true), (by first | rfl | (simp; done) | (simp [*]; done)), H', ⟨by first | omega | exact Nat.le_refl _⟩, by repeat (first | exact Drawn0.refl _ | apply Drawn0.step)⟩
      · rw [if_neg c4] at H
        have c4b0 : decide (a0 ≤ 122) = false := decide_eq_false c4
        clear c4
        by_cases c5 : 65 ≤ a0
        · rw [if_pos c5] at H
          have c5b0 : decide (65 ≤ a0) = true := decide_eq_true c5
          clear c5
          by_cases c6 : a0 ≤ 90
          · rw [if_pos c6] at H
            have c6b0 : decide (a0 ≤ 90) = true := decide_eq_true c6
            clear c6
            have H' := Aside0.mk H
            clear H
            go_wp2
            go_meet
            case rel => exact ⟨_, (true), (by first | rfl | (simp; done) | (simp [*]; done)), H', ⟨by first | omega | exact Nat.le_refl _⟩, by repeat (first | exact Drawn0.refl _ | apply Drawn0.step)⟩
          · rw [if_neg c6] at H
            have c6b0 : decide (a0 ≤ 90) = false := decide_eq_false c6
            clear c6
            by_cases c7 : 48 ≤ a0
            · rw [if_pos c7] at H
              have c7b0 : decide (48 ≤ a0) = true := decide_eq_true c7
              clear c7
              have H' := Aside0.mk H
              clear H
              go_wp2
              go_meet
              case rel => exact ⟨_, (decide (a0 ≤ 57)), (by first | rfl | (simp; done) | (simp [*]; done)), H', ⟨by first | omega | exact Nat.le_refl _⟩, by repeat (first | exact Drawn0.refl _ | apply Drawn0.step)⟩
            · rw [if_neg c7] at H
              have c7b0 : decide (48 ≤ a0) = false := decide_eq_false c7
              clear c7
              have H' := Aside0.mk H
              clear H
              go_wp2
              go_meet
              case rel => exact ⟨_, (false), (by first | rfl | (simp; done) | (simp [*]; done)), H', ⟨by first | omega | exact Nat.le_refl _⟩, by repeat (first | exact Drawn0.refl _ | apply Drawn0.step)⟩
        · rw [if_neg c5] at H
          have c5b0 : decide (65 ≤ a0) = false := decide_eq_false c5
          clear c5
          by_cases c8 : 48 ≤ a0
          · rw [if_pos c8] at H
            have c8b0 : decide (48 ≤ a0) = true := decide_eq_true c8
            clear c8
            have H' := Aside0.mk H
            clear H
            go_wp2
            go_meet
            case rel => exact ⟨_, (decide (a0 ≤ 57)), (by first | rfl | (simp; done) | (simp [*]; done)), H', ⟨by first | omega | exact Nat.le_refl _⟩, by repeat (first | exact Drawn0.refl _ | apply Drawn0.step)⟩
          · rw [if_neg c8] at H
            have c8b0 : decide (48 ≤ a0) = false := decide_eq_false c8
            clear c8
            have H' := Aside0.mk H
            clear H
            go_wp2
            go_meet
            case rel => exact ⟨_, (false), (by first | rfl | (simp; done) | (simp [*]; done)), H', ⟨by first | omega | exact Nat.le_refl _⟩, by repeat (first | exact Drawn0.refl _ | apply Drawn0.step)⟩
    · rw [if_neg c3] at H
      have c3b0 : decide (97 ≤ a0) = false := decide_eq_false c3
      clear c3
      (first | rw [c3b0] | (simp only [i64_w, i32_w]; rw [c3b0]) | skip)
      by_cases c9 : 65 ≤ a0
      · rw [if_pos c9] at H
        have c9b0 : decide (65 ≤ a0) = true := decide_eq_true c9
        clear c9
        by_cases c10 : a0 ≤ 90
        · rw [if_pos c10] at H
          have c10b0 : decide (a0 ≤ 90) = true := decide_eq_true c10
          clear c10
          have H' := Aside0.mk H
          clear H
          go_wp2
          go_meet
          case rel => exact ⟨_, (true), (by first | rfl | (simp; done) | (simp [*]; done)), H', ⟨by first | omega | exact Nat.le_refl _⟩, by repeat (first | exact Drawn0.refl _ | apply Drawn0.step)⟩
        · rw [if_neg c10] at H
          have c10b0 : decide (a0 ≤ 90) = false := decide_eq_false c10
          clear c10
          by_cases c11 : 48 ≤ a0
          · rw [if_pos c11] at H
            have c11b0 : decide (48 ≤ a0) = true := decide_eq_true c11
            clear c11
            have H' := Aside0.mk H
            clear H
            go_wp2
            go_meet
            case rel => exact ⟨_, (decide (a0 ≤ 57)), (by first | rfl | (simp; done) | (simp [*]; done)), H', ⟨by first | omega | exact Nat.le_refl _⟩, by repeat (first | exact Drawn0.refl _ | apply Drawn0.step)⟩
          · rw [if_neg c11] at H
            have c11b0 : decide (48 ≤ a0) = false := decide_eq_false c11
            clear c11
            have H' := Aside0.mk H
            clear H
            go_wp2
            go_meet
            case rel => exact ⟨_, (false), (by first | rfl | (simp; done) | (simp [*]; done)), H', ⟨by first | omega | exact Nat.le_refl _⟩, by repeat (first | exact Drawn0.refl _ | apply Drawn0.step)⟩
      · rw [if_neg c9] at H
        have c9b0 : decide (65 ≤ a0) = false := decide_eq_false c9
        clear c9
        by_cases c12 : 48 ≤ a0
        · rw [if_pos c12] at H
          have c12b0 : decide (48 ≤ a0) = true := decide_eq_true c12
          clear c12
          have H' := Aside0.mk H
          clear H
          go_wp2
          go_meet
          case rel => exact ⟨_, (decide (a0 ≤ 57)), (by first | rfl | (simp; done) | (simp [*]; done)), H', ⟨by first | omega | exact Nat.le_refl _⟩, by repeat (first | exact Drawn0.refl _ | apply Drawn0.step)⟩
        · rw [if_neg c12] at H
          have c12b0 : decide (48 ≤ a0) = false := decide_eq_false c12
          clear c12
          have H' := Aside0.mk H
          clear H
          go_wp2
          go_meet
          case rel => exact ⟨_, (false), (by first | rfl | (simp; done) | (simp [*]; done)), H', ⟨by first | omega | exact Nat.le_refl _⟩, by repeat (first | exact Drawn0.refl _ | apply Drawn0.step)⟩
  case rest =>
    clear HC2
    try clear c1
    try clear p2
    try clear c3
    try clear c3b0
    try clear c4
    try clear c4b0
    try clear c5
    try clear c5b0
    try clear c6
    try clear c6b0
    try clear c7
    try clear c7b0
    try clear c8
    try clear c8b0
    try clear c9
    try clear c9b0
    try clear c10
    try clear c10b0
    try clear c11
    try clear c11b0
    try clear c12
    try clear c12b0
    obtain ⟨kq, x24_1, rfl, HA, HJ1, ⟨mc1, rfl⟩⟩ := hcut
    cases kq with
    | zero => exact absurd HA.out (by simp [dbus_needsEscape.j0])
    | succ kj1 =>
      have H := HA.out
      clear HA
      simp only [dbus_needsEscape.j0] at H
      by_cases c13 : x24_1 = true
      · subst c13
        have H1 : (some false) = some r := by rw [if_pos rfl] at H; exact H
        clear H
        have H := H1
        clear H1
        obtain rfl := Option.some.inj H
        go_wp2
        go_ret
        exact ⟨by first | rfl | (simp; done) | (simp [*]; done), by repeat (first | exact Drawn0.refl _ | apply Drawn0.step)⟩
      · replace c13 := Bool.eq_false_iff.mpr c13
        subst c13
        have H1 : (if a0 = 45 then (some false) else (if a0 = 95 then (some false) else (if a0 = 47 then (some false) else (if a0 = 92 then (some false) else (if a0 = 46 then (some false) else (if a0 = 42 then (some false) else (some true))))))) = some r := by rw [if_neg (show ¬ (false = true) by decide)] at H; exact H
        clear H
        have H := H1
        clear H1
        by_cases c14 : a0 = 45
        · rw [if_pos c14] at H
          have c14b0 : (a0 == 45) = true := beq_iff_eq.mpr c14
          have c14b1 : (a0 != 45) = false := bne_eq_false_iff_eq.mpr c14
          clear c14
          obtain rfl := Option.some.inj H
          go_wp2
          go_ret
          exact ⟨by first | rfl | (simp; done) | (simp [*]; done), by repeat (first | exact Drawn0.refl _ | apply Drawn0.step)⟩
        · rw [if_neg c14] at H
          have c14b0 : (a0 == 45) = false := beq_eq_false_iff_ne.mpr c14
          have c14b1 : (a0 != 45) = true := bne_iff_ne.mpr c14
          by_cases c15 : a0 = 95
          · rw [if_pos c15] at H
            have c15b0 : (a0 == 95) = true := beq_iff_eq.mpr c15
            have c15b1 : (a0 != 95) = false := bne_eq_false_iff_eq.mpr c15
            clear c15
            obtain rfl := Option.some.inj H
            go_wp2
            go_ret
            exact ⟨by first | rfl | (simp; done) | (simp [*]; done), by repeat (first | exact Drawn0.refl _ | apply Drawn0.step)⟩
          · rw [if_neg c15] at H
            have c15b0 : (a0 == 95) = false := beq_eq_false_iff_ne.mpr c15
            have c15b1 : (a0 != 95) = true := bne_iff_ne.mpr c15
            by_cases c16 : a0 = 47
            · rw [if_pos c16] at H
              have c16b0 : (a0 == 47) = true := beq_iff_eq.mpr c16
              have c16b1 : (a0 != 47) = false := bne_eq_false_iff_eq.mpr c16
              clear c16
              obtain rfl := Option.some.inj H
              go_wp2
              go_ret
              exact ⟨by first | rfl | (simp; done) | (simp [*]; done), by repeat (first | exact Drawn0.refl _ | apply Drawn0.step)⟩
            · rw [if_neg c16] at H
              have c16b0 : (a0 == 47) = false := beq_eq_false_iff_ne.mpr c16
              have c16b1 : (a0 != 47) = true := bne_iff_ne.mpr c16
              by_cases c17 : a0 = 92
              · rw [if_pos c17] at H
                have c17b0 : (a0 == 92) = true := beq_iff_eq.mpr c17
                have c17b1 : (a0 != 92) = false := bne_eq_false_iff_eq.mpr c17
                clear c17
                obtain rfl := Option.some.inj H
                go_wp2
                go_ret
                exact ⟨by first | rfl | (simp; done) | (simp [*]; done), by repeat (first | exact Drawn0.refl _ | apply Drawn0.step)⟩
              · rw [if_neg c17] at H
                have c17b0 : (a0 == 92) = false := beq_eq_false_iff_ne.mpr c17
                have c17b1 : (a0 != 92) = true := bne_iff_ne.mpr c17
                by_cases c18 : a0 = 46
                · rw [if_pos c18] at H
                  have c18b0 : (a0 == 46) = true := beq_iff_eq.mpr c18
                  have c18b1 : (a0 != 46) = false := bne_eq_false_iff_eq.mpr c18
                  clear c18
                  obtain rfl := Option.some.inj H
                  go_wp2
                  go_ret
                  exact ⟨by first | rfl | (simp; done) | (simp [*]; done), by repeat (first | exact Drawn0.refl _ | apply Drawn0.step)⟩
                · rw [if_neg c18] at H
                  have c18b0 : (a0 == 46) = false := beq_eq_false_iff_ne.mpr c18
                  have c18b1 : (a0 != 46) = true := bne_iff_ne.mpr c18
                  by_cases c19 : a0 = 42
                  · rw [if_pos c19] at H
                    have c19b0 : (a0 == 42) = true := beq_iff_eq.mpr c19
                    have c19b1 : (a0 != 42) = false := bne_eq_false_iff_eq.mpr c19
                    clear c19
                    obtain rfl := Option.some.inj H
                    go_wp2
                    go_ret
                    exact ⟨by first | rfl | (simp; done) | (simp [*]; done), by repeat (first | exact Drawn0.refl _ | apply Drawn0.step)⟩
                  · rw [if_neg c19] at H
                    have c19b0 : (a0 == 42) = false := beq_eq_false_iff_ne.mpr c19
                    have c19b1 : (a0 != 42) = true := bne_iff_ne.mpr c19
                    obtain rfl := Option.some.inj H
                    go_wp2
                    go_ret
                    exact ⟨by first | rfl | (simp; done) | (simp [*]; done), by repeat (first | exact Drawn0.refl _ | apply Drawn0.step)⟩

/-! ### dbus_strNeedsEscape: function 34 -/
def dbus_strNeedsEscape.l0 : Nat → ByteArray → Int → Int → Option (Int)
  | 0, _, _, _ => none
  | k + 1, x0, x3, x4 => if x4 < (x0.size : Int) then (if 0 ≤ x4 then ((dbus_needsEscape.f k (bt x0 x4)).bind fun t101 => (if t101 = true then (dbus_strNeedsEscape.l0 k x0 (wrap64 (x3 + 1)) (wrap64 (x4 + 1))) else (dbus_strNeedsEscape.l0 k x0 x3 (wrap64 (x4 + 1))))) else (none)) else (some x3)
def dbus_strNeedsEscape.f (k : Nat) (a0 : ByteArray) : Option (Int) := dbus_strNeedsEscape.l0 k a0 0 0
theorem dbus_strNeedsEscape.mono_l : ∀ k, (∀ y0 y1 y2, LeO (dbus_strNeedsEscape.l0 k y0 y1 y2) (dbus_strNeedsEscape.l0 (k + 1) y0 y1 y2))
  | 0 => fun _ _ _ r h => by simp [dbus_strNeedsEscape.l0] at h
  | k + 1 => by
    have ih0 := dbus_strNeedsEscape.mono_l k
    · intro y0 y1 y2
      unfold dbus_strNeedsEscape.l0
      repeat' first
      | (with_reducible exact ih0 _ _ _)
      | (with_reducible exact dbus_needsEscape.mono _ _)
      | (with_reducible exact LeO.refl _)
      | (with_reducible exact LeO.none _)
      | (with_reducible refine LeO.ite ?_ ?_)
      | (with_reducible refine LeO.bind ?_ (fun _ => ?_))
      | exact ih0 _ _ _
      | exact dbus_needsEscape.mono _ _
      | exact LeO.none _
      | refine LeO.ite ?_ ?_
      | refine LeO.bind ?_ (fun _ => ?_)
theorem dbus_strNeedsEscape.mono : ∀ a0 k, LeO (dbus_strNeedsEscape.f k a0) (dbus_strNeedsEscape.f (k + 1) a0) := by
  intro a0 k
  have ih0 := dbus_strNeedsEscape.mono_l k
  unfold dbus_strNeedsEscape.f
  repeat' first
      | (with_reducible exact ih0 _ _ _)
      | (with_reducible exact dbus_needsEscape.mono _ _)
      | (with_reducible exact LeO.refl _)
      | (with_reducible exact LeO.none _)
      | (with_reducible refine LeO.ite ?_ ?_)
      | (with_reducible refine LeO.bind ?_ (fun _ => ?_))
      | exact ih0 _ _ _
      | exact dbus_needsEscape.mono _ _
      | exact LeO.none _
      | refine LeO.ite ?_ ?_
      | refine LeO.bind ?_ (fun _ => ?_)
set_option maxHeartbeats 8000000 in
set_option maxRecDepth 100000 in
theorem dbus_strNeedsEscape.calls (k : Nat) (a0 : ByteArray) (r : Int) (w : World) (h : dbus_strNeedsEscape.f k a0 = some r) :
    Calls Try.prog 34 #[.string a0] w fun e w' => e = .returned (.int .i64 r) ∧ Drawn0 w w' := by
  have H : (dbus_strNeedsEscape.l0 k a0 0 0) = some r := h
  clear h
  have H' := Aside0.mk H
  clear H
  go_enter Try.func34, Try.ntmps34
  go_wp2
  go_loopg [3, 4] k (fun kq v3 v4 w' => ∃ (x3_1 : Int) (x4_1 : Int), v3 = .int .i64 x3_1 ∧ v4 = .int .i64 x4_1 ∧ Aside0 (dbus_strNeedsEscape.l0 kq a0 x3_1 x4_1 = some r) ∧ Aside0 (kq ≤ k) ∧ Drawn0 w w')
  case atStart => exact ⟨(0), (0), (by first | rfl | (simp; done) | (simp [*]; done)), (by first | rfl | (simp; done) | (simp [*]; done)), H', ⟨Nat.le_refl _⟩, by repeat (first | exact Drawn0.refl _ | apply Drawn0.step)⟩
  case round =>
    clear H'
    obtain ⟨x3_1, x4_1, rfl, rfl, HA, HK1, ⟨m1, rfl⟩⟩ := hrel
    cases gk with
    | zero => exact absurd HA.out (by simp [dbus_strNeedsEscape.l0])
    | succ k1 =>
      have H := HA.out
      clear HA
      simp only [dbus_strNeedsEscape.l0] at H
      by_cases c2 : x4_1 < (a0.size : Int)
      · rw [if_pos c2] at H
        have c2b0 : decide (x4_1 < (a0.size : Int)) = true := decide_eq_true c2
        clear c2
        by_cases c3 : 0 ≤ x4_1
        · rw [if_pos c3] at H
          have c3b0 : decide (0 ≤ x4_1) = true := decide_eq_true c3
          clear c3
          replace H := Option.bind_eq_some_iff.mp H
          obtain ⟨t101, A50, H⟩ := H
          replace H : (if t101 = true then (dbus_strNeedsEscape.l0 k1 a0 (wrap64 (x3_1 + 1)) (wrap64 (x4_1 + 1))) else (dbus_strNeedsEscape.l0 k1 a0 x3_1 (wrap64 (x4_1 + 1)))) = some r := H
          have A5 := Aside0.mk A50
          clear A50
          by_cases c6 : t101 = true
          · subst c6
            have H1 : (dbus_strNeedsEscape.l0 k1 a0 (wrap64 (x3_1 + 1)) (wrap64 (x4_1 + 1))) = some r := by rw [if_pos rfl] at H; exact H
            clear H
            have H := H1
            clear H1
            have H' := Aside0.mk H
            clear H
            have p4 : 0 ≤ (x4_1 : Int) := of_decide_eq_true (by first | (with_reducible assumption) | assumption)
            have q4 : x4_1 < (a0.size : Int) := of_decide_eq_true (by first | (with_reducible assumption) | assumption)
            have hx4 := bt_at a0 x4_1
            replace p4 := eq_true p4
            replace q4 := eq_true q4
            go_wp2_with (first | ((with_reducible refine gate_callee (f := 35) rfl ?_); refine goesL_ (some 14) rfl rfl Try.func35 (by kernel_rfl) rfl #[.int .u8 (bt a0 x4_1)] rfl (by (try simp only [List.map_toArray, List.map_cons, List.map_nil]); first | done | rfl | (simp only [List.length_drop, List.length_take]; rfl)) ?_; (with_reducible refine (dbus_needsEscape.calls k1 (bt a0 x4_1) true _ A5.out).mono ?_); rintro e w' ⟨rfl, ⟨nd, rfl⟩⟩; refine ⟨_, rfl, ?_⟩))
            go_roundg k1
            case measure => have := HK1.out; omega
            case rel => exact ⟨(wrap64 (x3_1 + 1)), (wrap64 (x4_1 + 1)), (by first | rfl | (simp; done) | (simp [*]; done)), (by first | rfl | (simp; done) | (simp [*]; done)), H', ⟨by have := HK1.out; omega⟩, by repeat (first | exact Drawn0.refl _ | apply Drawn0.step)⟩
          · replace c6 := Bool.eq_false_iff.mpr c6
            subst c6
            have H1 : (dbus_strNeedsEscape.l0 k1 a0 x3_1 (wrap64 (x4_1 + 1))) = some r := by rw [if_neg (show ¬ (false = true) by decide)] at H; exact H
            clear H
            have H := H1
            clear H1
            have H' := Aside0.mk H
            clear H
            have p4 : 0 ≤ (x4_1 : Int) := of_decide_eq_true (by first | (with_reducible assumption) | assumption)
            have q4 : x4_1 < (a0.size : Int) := of_decide_eq_true (by first | (with_reducible assumption) | assumption)
            have hx4 := bt_at a0 x4_1
            replace p4 := eq_true p4
            replace q4 := eq_true q4
            go_wp2_with (first | ((with_reducible refine gate_callee (f := 35) rfl ?_); refine goesL_ (some 14) rfl rfl Try.func35 (by kernel_rfl) rfl #[.int .u8 (bt a0 x4_1)] rfl (by (try simp only [List.map_toArray, List.map_cons, List.map_nil]); first | done | rfl | (simp only [List.length_drop, List.length_take]; rfl)) ?_; (with_reducible refine (dbus_needsEscape.calls k1 (bt a0 x4_1) false _ A5.out).mono ?_); rintro e w' ⟨rfl, ⟨nd, rfl⟩⟩; refine ⟨_, rfl, ?_⟩))
            go_roundg k1
            case measure => have := HK1.out; omega
            case rel => exact ⟨(x3_1), (wrap64 (x4_1 + 1)), (by first | rfl | (simp; done) | (simp [*]; done)), (by first | rfl | (simp; done) | (simp [*]; done)), H', ⟨by have := HK1.out; omega⟩, by repeat (first | exact Drawn0.refl _ | apply Drawn0.step)⟩
        · rw [if_neg c3] at H
          exact absurd H (by simp)
      · rw [if_neg c2] at H
        have c2b0 : decide (x4_1 < (a0.size : Int)) = false := decide_eq_false c2
        clear c2
        obtain rfl := Option.some.inj H
        go_wp2
        go_ret
        exact ⟨by first | rfl | (simp; done) | (simp [*]; done), by repeat (first | exact Drawn0.refl _ | apply Drawn0.step)⟩

/-! ### dbus_hexchar: function 36 -/
def dbus_hexchar.f (a0 : Int) : Option (Int) := if 0 ≤ a0 then (if a0 < 16 then (some (bt (⟨#[48, 49, 50, 51, 52, 53, 54, 55, 56, 57, 97, 98, 99, 100, 101, 102]⟩ : ByteArray) a0)) else (none)) else (none)
set_option maxHeartbeats 8000000 in
set_option maxRecDepth 100000 in
theorem dbus_hexchar.calls (a0 : Int) (r : Int) (w : World) (h : dbus_hexchar.f a0 = some r) :
    Calls Try.prog 36 #[.int .u8 a0] w fun e w' => e = .returned (.int .u8 r) ∧ Drawn0 w w' := by
  have H : (if 0 ≤ a0 then (if a0 < 16 then (some (bt (⟨#[48, 49, 50, 51, 52, 53, 54, 55, 56, 57, 97, 98, 99, 100, 101, 102]⟩ : ByteArray) a0)) else (none)) else (none)) = some r := h
  clear h
  by_cases c2 : 0 ≤ a0
  · rw [if_pos c2] at H
    have c2b0 : decide (0 ≤ a0) = true := decide_eq_true c2
    clear c2
    by_cases c3 : a0 < 16
    · rw [if_pos c3] at H
      have c3b0 : decide (a0 < 16) = true := decide_eq_true c3
      clear c3
      obtain rfl := Option.some.inj H
      have p4 : 0 ≤ (a0 : Int) := of_decide_eq_true (by first | (with_reducible assumption) | assumption)
      have q4 : a0 < (16 : Int) := of_decide_eq_true (by first | (with_reducible assumption) | assumption)
      have hx4 := bt_at (⟨#[48, 49, 50, 51, 52, 53, 54, 55, 56, 57, 97, 98, 99, 100, 101, 102]⟩ : ByteArray) a0
      replace p4 := eq_true p4
      replace q4 := eq_true q4
      go_enter Try.func36, Try.ntmps36
      go_wp2
      go_ret
      exact ⟨by first | rfl | (simp; done) | (simp [*]; done), by repeat (first | exact Drawn0.refl _ | apply Drawn0.step)⟩
    · rw [if_neg c3] at H
      exact absurd H (by simp)
  · rw [if_neg c2] at H
    exact absurd H (by simp)

/-! ### dbus_EscapeBusAddressValue: function 26 -/
mutual
def dbus_EscapeBusAddressValue.j0 : Nat → ByteArray → List Int → Option (ByteArray)
  | 0, _, _ => none
  | k + 1, x0, x5 => dbus_EscapeBusAddressValue.l0 k x0 x5 0 0
def dbus_EscapeBusAddressValue.l0 : Nat → ByteArray → List Int → Int → Int → Option (ByteArray)
  | 0, _, _, _, _ => none
  | k + 1, x0, x5, x7, x8 => if x8 < (x0.size : Int) then (if 0 ≤ x8 then ((dbus_needsEscape.f k (bt x0 x8)).bind fun t109 => (if t109 = true then (if 0 ≤ x7 then (if x7 < (x5.length : Int) then ((dbus_hexchar.f ((bt x0 x8) / 16)).bind fun t111 => (if 0 ≤ (wrap64 (x7 + 1)) then (if (wrap64 (x7 + 1)) < (x5.length : Int) then ((dbus_hexchar.f (Go.bits .and .u8 (bt x0 x8) 15)).bind fun t113 => (if 0 ≤ (wrap64 (x7 + 2)) then (if (wrap64 (x7 + 2)) < (x5.length : Int) then (dbus_EscapeBusAddressValue.l0 k x0 (((x5.set (x7 : Int).toNat 37).set ((wrap64 (x7 + 1)) : Int).toNat t111).set ((wrap64 (x7 + 2)) : Int).toNat t113) (wrap64 (x7 + 3)) (wrap64 (x8 + 1))) else (none)) else (none))) else (none)) else (none))) else (none)) else (none)) else (if 0 ≤ x7 then (if x7 < (x5.length : Int) then (dbus_EscapeBusAddressValue.l0 k x0 (x5.set (x7 : Int).toNat (bt x0 x8)) (wrap64 (x7 + 1)) (wrap64 (x8 + 1))) else (none)) else (none)))) else (none)) else (some (strOfNums x5))
end
def dbus_EscapeBusAddressValue.f (k : Nat) (a0 : ByteArray) : Option (ByteArray) := (dbus_strNeedsEscape.f k a0).bind fun t102 => (if t102 = 0 then (some a0) else (if (wrap64 ((a0.size : Int) + (wrap64 (2 * t102)))) ≤ 64 then (if 0 ≤ (wrap64 ((a0.size : Int) + (wrap64 (2 * t102)))) then (if (wrap64 ((a0.size : Int) + (wrap64 (2 * t102))) : Int).toNat ≤ 281474976710656 then (dbus_EscapeBusAddressValue.j0 k a0 (List.replicate (wrap64 ((a0.size : Int) + (wrap64 (2 * t102))) : Int).toNat 0)) else (none)) else (none)) else (if 0 ≤ (wrap64 ((a0.size : Int) + (wrap64 (2 * t102)))) then (if (wrap64 ((a0.size : Int) + (wrap64 (2 * t102))) : Int).toNat ≤ 281474976710656 then (dbus_EscapeBusAddressValue.j0 k a0 (List.replicate (wrap64 ((a0.size : Int) + (wrap64 (2 * t102))) : Int).toNat 0)) else (none)) else (none))))
theorem dbus_EscapeBusAddressValue.mono_l : ∀ k, (∀ y0 y1, LeO (dbus_EscapeBusAddressValue.j0 k y0 y1) (dbus_EscapeBusAddressValue.j0 (k + 1) y0 y1)) ∧ (∀ y0 y1 y2 y3, LeO (dbus_EscapeBusAddressValue.l0 k y0 y1 y2 y3) (dbus_EscapeBusAddressValue.l0 (k + 1) y0 y1 y2 y3))
  | 0 => ⟨fun _ _ r h => by simp [dbus_EscapeBusAddressValue.j0] at h, fun _ _ _ _ r h => by simp [dbus_EscapeBusAddressValue.l0] at h⟩
  | k + 1 => by
    obtain ⟨ih0, ih1⟩ := dbus_EscapeBusAddressValue.mono_l k
    refine ⟨?_, ?_⟩
    · intro y0 y1
      unfold dbus_EscapeBusAddressValue.j0
      repeat' first
      | (with_reducible exact ih0 _ _)
      | (with_reducible exact ih1 _ _ _ _)
      | (with_reducible exact dbus_needsEscape.mono _ _)
      | (with_reducible exact dbus_strNeedsEscape.mono _ _)
      | (with_reducible exact LeO.refl _)
      | (with_reducible exact LeO.none _)
      | (with_reducible refine LeO.ite ?_ ?_)
      | (with_reducible refine LeO.bind ?_ (fun _ => ?_))
      | exact ih0 _ _
      | exact ih1 _ _ _ _
      | exact dbus_needsEscape.mono _ _
      | exact dbus_strNeedsEscape.mono _ _
      | exact LeO.none _
      | refine LeO.ite ?_ ?_
      | refine LeO.bind ?_ (fun _ => ?_)
    · intro y0 y1 y2 y3
      unfold dbus_EscapeBusAddressValue.l0
      repeat' first
      | (with_reducible exact ih0 _ _)
      | (with_reducible exact ih1 _ _ _ _)
      | (with_reducible exact dbus_needsEscape.mono _ _)
      | (with_reducible exact dbus_strNeedsEscape.mono _ _)
      | (with_reducible exact LeO.refl _)
      | (with_reducible exact LeO.none _)
      | (with_reducible refine LeO.ite ?_ ?_)
      | (with_reducible refine LeO.bind ?_ (fun _ => ?_))
      | exact ih0 _ _
      | exact ih1 _ _ _ _
      | exact dbus_needsEscape.mono _ _
      | exact dbus_strNeedsEscape.mono _ _
      | exact LeO.none _
      | refine LeO.ite ?_ ?_
      | refine LeO.bind ?_ (fun _ => ?_)
theorem dbus_EscapeBusAddressValue.mono : ∀ a0 k, LeO (dbus_EscapeBusAddressValue.f k a0) (dbus_EscapeBusAddressValue.f (k + 1) a0) := by
  intro a0 k
  obtain ⟨ih0, ih1⟩ := dbus_EscapeBusAddressValue.mono_l k
  unfold dbus_EscapeBusAddressValue.f
  repeat' first
      | (with_reducible exact ih0 _ _)
      | (with_reducible exact ih1 _ _ _ _)
      | (with_reducible exact dbus_needsEscape.mono _ _)
      | (with_reducible exact dbus_strNeedsEscape.mono _ _)
      | (with_reducible exact LeO.refl _)
      | (with_reducible exact LeO.none _)
      | (with_reducible refine LeO.ite ?_ ?_)
      | (with_reducible refine LeO.bind ?_ (fun _ => ?_))
      | exact ih0 _ _
      | exact ih1 _ _ _ _
      | exact dbus_needsEscape.mono _ _
      | exact dbus_strNeedsEscape.mono _ _
      | exact LeO.none _
      | refine LeO.ite ?_ ?_
      | refine LeO.bind ?_ (fun _ => ?_)
set_option maxHeartbeats 8000000 in
set_option maxRecDepth 100000 in
theorem array_cut (W : World) (g : Nat) (n : Int) (h0 : 0 ≤ n) (h1 : n ≤ 64) : (Instr.sliceAt 61 (.pointer (some ⟨g, 0, none⟩)) none (some (.int .i64 n)) none).run Try.prog W = .ok (.slice (some ⟨g, 0, none⟩) n.toNat 64) W := by
  have hl : Try.prog.arrayLen 61 = 64 := by kernel_rfl
  rw [run_sliceAt_array_h W 61 ⟨g, 0, none⟩ (by kernel_rfl) .i64 n h0 (by rw [hl]; exact h1), hl]
  have he : (sizeOf (Try.prog.elem 61)).run Try.prog W = .ok 1 W := by kernel_rfl
  rw [he]
  show Result.ok (slicedAt ⟨g, 0, none⟩ 0 n.toNat 64 1) W = _
  simp [slicedAt, Addr.add]
theorem block_new (w : World) (o : Obj) : (w.alloc o).heap[w.heap.size]? = some o := by
  show (w.heap.push o)[w.heap.size]? = _
  simp
theorem array_row (w W0 : World) (hW : W0.heap.size = w.heap.size) (cur : Array Value) (hc : cur.toList = List.replicate 64 (.int .u8 0)) (n : Int) (y : List Int) (hy : y = List.replicate n.toNat 0) (h1 : n ≤ 64) :
    Kd.R (Kd.int .u8) 61 (W0.alloc (.cells cur 61)) w.heap.size (fun _ => True) (.slice (some ⟨w.heap.size, 0, none⟩) n.toNat 64) y := by
  have hl : y.length = n.toNat := by rw [hy, List.length_replicate]
  have hcs : cur.size = 64 := by rw [← Array.length_toList, hc, List.length_replicate]
  refine Kd.R_of_own ⟨?_, .inr ⟨w.heap.size, 64, cur, by rw [hl], Nat.le_refl _, ?_, by rw [hl]; omega, by decide, by rw [hcs], ?_⟩⟩ (fun _ _ => trivial)
  · simp [encs]
  · rw [← hW]; exact block_new W0 _
  · rw [hc, hl, hy]
    simp only [encs, List.map_replicate, Nat.mul_one, List.take_replicate]
    rw [Nat.min_eq_left (by omega)]
theorem dbus_EscapeBusAddressValue.calls (k : Nat) (a0 : ByteArray) (r : ByteArray) (w : World) (h : dbus_EscapeBusAddressValue.f k a0 = some r) :
    Calls Try.prog 26 #[.string a0] w fun e w' => e = .returned (.string r) ∧ Below w.heap.size w w' := by
  have HB := Aside0.mk (Below.refl w.heap.size w)
  have H : ((dbus_strNeedsEscape.f k a0).bind fun t102 => (if t102 = 0 then (some a0) else (if (wrap64 ((a0.size : Int) + (wrap64 (2 * t102)))) ≤ 64 then (if 0 ≤ (wrap64 ((a0.size : Int) + (wrap64 (2 * t102)))) then (if (wrap64 ((a0.size : Int) + (wrap64 (2 * t102))) : Int).toNat ≤ 281474976710656 then (dbus_EscapeBusAddressValue.j0 k a0 (List.replicate (wrap64 ((a0.size : Int) + (wrap64 (2 * t102))) : Int).toNat 0)) else (none)) else (none)) else (if 0 ≤ (wrap64 ((a0.size : Int) + (wrap64 (2 * t102)))) then (if (wrap64 ((a0.size : Int) + (wrap64 (2 * t102))) : Int).toNat ≤ 281474976710656 then (dbus_EscapeBusAddressValue.j0 k a0 (List.replicate (wrap64 ((a0.size : Int) + (wrap64 (2 * t102))) : Int).toNat 0)) else (none)) else (none))))) = some r := h
  clear h
  replace H := Option.bind_eq_some_iff.mp H
  obtain ⟨t102, A20, H⟩ := H
  replace H : (if t102 = 0 then (some a0) else (if (wrap64 ((a0.size : Int) + (wrap64 (2 * t102)))) ≤ 64 then (if 0 ≤ (wrap64 ((a0.size : Int) + (wrap64 (2 * t102)))) then (if (wrap64 ((a0.size : Int) + (wrap64 (2 * t102))) : Int).toNat ≤ 281474976710656 then (dbus_EscapeBusAddressValue.j0 k a0 (List.replicate (wrap64 ((a0.size : Int) + (wrap64 (2 * t102))) : Int).toNat 0)) else (none)) else (none)) else (if 0 ≤ (wrap64 ((a0.size : Int) + (wrap64 (2 * t102)))) then (if (wrap64 ((a0.size : Int) + (wrap64 (2 * t102))) : Int).toNat ≤ 281474976710656 then (dbus_EscapeBusAddressValue.j0 k a0 (List.replicate (wrap64 ((a0.size : Int) + (wrap64 (2 * t102))) : Int).toNat 0)) else (none)) else (none)))) = some r := H
  have A2 := Aside0.mk A20
  clear A20
  by_cases c3 : t102 = 0
  · rw [if_pos c3] at H
    have c3b0 : (t102 == 0) = true := beq_iff_eq.mpr c3
    have c3b1 : (t102 != 0) = false := bne_eq_false_iff_eq.mpr c3
    clear c3
    obtain rfl := Option.some.inj H
    go_enter Try.func26, Try.ntmps26
    go_wp2_with (first | ((with_reducible refine gate_callee (f := 34) rfl ?_); refine goesL_ (some 11) rfl rfl Try.func34 (by kernel_rfl) rfl #[.string a0] rfl (by (try simp only [List.map_toArray, List.map_cons, List.map_nil]); first | done | rfl | (simp only [List.length_drop, List.length_take]; rfl)) ?_; (with_reducible refine (dbus_strNeedsEscape.calls k a0 t102 _ A2.out).mono ?_); rintro e w' ⟨rfl, ⟨nd, rfl⟩⟩; refine ⟨_, rfl, ?_⟩))
    go_ret
    exact ⟨by first | rfl | (simp [errW_none, errW_some] <;> rfl) | (simp [*, errW_none, errW_some] <;> rfl), by repeat (first | (with_reducible first | exact HB.out | apply below_alloc | apply pw_below_drewN | apply below_drew1) | exact HB.out)⟩
  · rw [if_neg c3] at H
    have c3b0 : (t102 == 0) = false := beq_eq_false_iff_ne.mpr c3
    have c3b1 : (t102 != 0) = true := bne_iff_ne.mpr c3
    have HC4 := Aside0.mk H
    clear H
    go_enter Try.func26, Try.ntmps26
    go_upto_if 21 with (first | ((with_reducible refine gate_callee (f := 34) rfl ?_); refine goesL_ (some 11) rfl rfl Try.func34 (by kernel_rfl) rfl #[.string a0] rfl (by (try simp only [List.map_toArray, List.map_cons, List.map_nil]); first | done | rfl | (simp only [List.length_drop, List.length_take]; rfl)) ?_; (with_reducible refine (dbus_strNeedsEscape.calls k a0 t102 _ A2.out).mono ?_); rintro e w' ⟨rfl, ⟨nd, rfl⟩⟩; refine ⟨_, rfl, ?_⟩))
    (try simp only [Act.put, List.setIfInBounds_toArray, List.set_cons_zero, List.set_cons_succ])
    go_cut [5] (fun v5 wc => ∃ (kq : Nat) (x5_3 : List Int), Aside0 (dbus_EscapeBusAddressValue.j0 kq a0 x5_3 = some r) ∧ Aside0 (kq ≤ k) ∧ (∃ e_ : Nat, Aside0 (Kd.R (Kd.int .u8) e_ wc w.heap.size (fun _ => True) v5 x5_3)) ∧ Aside0 (Below w.heap.size w wc))
    case first =>
      have H := HC4.out
      clear HC4
      by_cases c5 : (wrap64 ((a0.size : Int) + (wrap64 (2 * t102)))) ≤ 64
      · rw [if_pos c5] at H
        have c5b0 : decide ((wrap64 ((a0.size : Int) + (wrap64 (2 * t102)))) ≤ 64) = true := decide_eq_true c5
        clear c5
        (first | rw [c5b0] | (simp only [i64_w, i32_w]; rw [c5b0]) | skip)
        obtain ⟨ji6, hji6⟩ : ∃ j_ : Int, (wrap64 ((a0.size : Int) + (wrap64 (2 * t102)))) = j_ := ⟨_, rfl⟩
        replace H : (if 0 ≤ (ji6) then (if (ji6 : Int).toNat ≤ 281474976710656 then (dbus_EscapeBusAddressValue.j0 k a0 (List.replicate (ji6 : Int).toNat 0)) else (none)) else (none)) = some r := by first | (rw [hji6] at H; exact H) | (simp only [hji6] at H ⊢; exact H)
        (try rw [hji6] at c5b0)
        have hji6w : (IntKind.i64.wrap ((a0.size : Int) + (wrap64 (2 * t102)))) = ji6 := (i64_w _).trans hji6
        by_cases c7 : 0 ≤ (ji6)
        · rw [if_pos c7] at H
          have c7b0 := eq_true c7
          have c7b1 : decide (0 ≤ (ji6)) = true := decide_eq_true c7
          clear c7
          by_cases c8 : (ji6 : Int).toNat ≤ 281474976710656
          · rw [if_pos c8] at H
            have c8b0 := eq_true c8
            have c8b1 : decide ((ji6 : Int).toNat ≤ 281474976710656) = true := decide_eq_true c8
            clear c8
            obtain ⟨y103, hy103⟩ : ∃ y_ : List Int, y_ = (List.replicate (ji6 : Int).toNat 0) := ⟨_, rfl⟩
            replace H : (dbus_EscapeBusAddressValue.j0 k a0 y103) = some r := by first | (rw [hy103]; with_reducible exact H) | (have H2_ := (Option.bind_some _ _).symm.trans H; rw [hy103]; with_reducible exact H2_) | (have H2_ := (Option.bind_some _ _).symm.trans H; with_reducible exact H2_) | with_reducible exact H | (rw [hy103]; exact H) | exact H
            have Ny103 := Aside0.mk hy103
            clear hy103
            have H' := Aside0.mk H
            clear H
            subst hji6
            have hN0 : 0 ≤ (wrap64 ((a0.size : Int) + (wrap64 (2 * t102)))) := of_decide_eq_true (by first | (with_reducible assumption) | assumption)
            have hN64 : (wrap64 ((a0.size : Int) + (wrap64 (2 * t102)))) ≤ 64 := of_decide_eq_true (by first | (with_reducible assumption) | assumption)
            have hcut : ∀ W, (Instr.sliceAt 61 (.pointer (some ⟨w.heap.size, 0, none⟩)) none (some (.int .i64 (wrap64 ((a0.size : Int) + (wrap64 (2 * t102)))))) none).run Try.prog W = .ok (.slice (some ⟨w.heap.size, 0, none⟩) (wrap64 ((a0.size : Int) + (wrap64 (2 * t102)))).toNat 64) W := fun W => array_cut W _ _ hN0 hN64
            have hy := Ny103.out
            clear hN0
            go_wp2
            go_meet
            case rel => exact ⟨_, (y103), H', ⟨by first | omega | exact Nat.le_refl _⟩, ⟨61, ⟨array_row w _ rfl _ rfl (wrap64 ((a0.size : Int) + (wrap64 (2 * t102)))) y103 hy hN64⟩⟩, ⟨by repeat (first | (with_reducible first | exact HB.out | apply below_alloc | apply pw_below_drewN | apply below_drew1) | exact HB.out)⟩⟩
          · rw [if_neg c8] at H
            exact absurd H (by simp)
        · rw [if_neg c7] at H
          exact absurd H (by simp)
      · rw [if_neg c5] at H
        have c5b0 : decide ((wrap64 ((a0.size : Int) + (wrap64 (2 * t102)))) ≤ 64) = false := decide_eq_false c5
        clear c5
        (first | rw [c5b0] | (simp only [i64_w, i32_w]; rw [c5b0]) | skip)
        obtain ⟨ji11, hji11⟩ : ∃ j_ : Int, (wrap64 ((a0.size : Int) + (wrap64 (2 * t102)))) = j_ := ⟨_, rfl⟩
        replace H : (if 0 ≤ (ji11) then (if (ji11 : Int).toNat ≤ 281474976710656 then (dbus_EscapeBusAddressValue.j0 k a0 (List.replicate (ji11 : Int).toNat 0)) else (none)) else (none)) = some r := by first | (rw [hji11] at H; exact H) | (simp only [hji11] at H ⊢; exact H)
        (try rw [hji11] at c5b0)
        have hji11w : (IntKind.i64.wrap ((a0.size : Int) + (wrap64 (2 * t102)))) = ji11 := (i64_w _).trans hji11
        by_cases c12 : 0 ≤ (ji11)
        · rw [if_pos c12] at H
          have c12b0 := eq_true c12
          have c12b1 : decide (0 ≤ (ji11)) = true := decide_eq_true c12
          clear c12
          by_cases c13 : (ji11 : Int).toNat ≤ 281474976710656
          · rw [if_pos c13] at H
            have c13b0 := eq_true c13
            have c13b1 : decide ((ji11 : Int).toNat ≤ 281474976710656) = true := decide_eq_true c13
            clear c13
            obtain ⟨y106, hy106⟩ : ∃ y_ : List Int, y_ = (List.replicate (ji11 : Int).toNat 0) := ⟨_, rfl⟩
            replace H : (dbus_EscapeBusAddressValue.j0 k a0 y106) = some r := by first | (rw [hy106]; with_reducible exact H) | (have H2_ := (Option.bind_some _ _).symm.trans H; rw [hy106]; with_reducible exact H2_) | (have H2_ := (Option.bind_some _ _).symm.trans H; with_reducible exact H2_) | with_reducible exact H | (rw [hy106]; exact H) | exact H
            have Ny106 := Aside0.mk hy106
            clear hy106
            have H' := Aside0.mk H
            clear H
            subst hji11
            go_wp2_with (first | ((with_reducible refine gate_dst (N := 25) rfl ?_); refine Kd.R_make (Kd.int .u8) _ 5 rfl (N := 25) rfl 41 _ _ rfl (wrap64 ((a0.size : Int) + (wrap64 (2 * t102)))) rfl rfl Try.underlying41 (.int .u8 0) 1 info5 rfl (by decide) (by omega) 0 (ok := fun _ => True) (okp := fun _ => True) rfl (fun _ hk => hk) trivial (of_decide_eq_true (by first | (with_reducible assumption) | assumption)) (Nat.le_trans (Nat.mul_le_mul_right _ (of_decide_eq_true (by first | (with_reducible assumption) | assumption) : (wrap64 ((a0.size : Int) + (wrap64 (2 * t102)))).toNat ≤ 281474976710656)) (by omega)) (Below.refl _ _) (Nat.le_refl _) ?_; intro v107 w14 ho15 hb hg_ hnew_; clear hg_ hnew_; (first | rw [← Ny106.out] at ho15 | (simp only [Int.reduceToNat] at ho15; rw [← Ny106.out] at ho15)); have n0_ := Aside0.mk (Kd.R_lower ho15 (below_size (by repeat (first | (with_reducible first | exact HB.out | apply below_alloc | apply pw_below_drewN | apply below_drew1) | exact HB.out)))); have n1_ := Aside0.mk (below_step (by repeat (first | (with_reducible first | exact HB.out | apply below_alloc | apply pw_below_drewN | apply below_drew1) | exact HB.out)) hb); clear HB; have HO108 := n0_; have HB := n1_; clear n0_ n1_; clear hb ho15))
            go_meet
            case rel => exact ⟨_, (y106), H', ⟨by first | omega | exact Nat.le_refl _⟩, ⟨5, ⟨by (with_reducible repeat (first | apply Kd.R_alloc | apply Kd.R_drewN | apply Kd.R_drew)); exact HO108.out⟩⟩, ⟨by repeat (first | (with_reducible first | exact HB.out | apply below_alloc | apply pw_below_drewN | apply below_drew1) | exact HB.out)⟩⟩
          · rw [if_neg c13] at H
            exact absurd H (by simp)
        · rw [if_neg c12] at H
          exact absurd H (by simp)
    case rest =>
      clear HC4
      try clear c1
      try clear c2
      try clear p2
      try clear c3
      try clear c3b0
      try clear c3b1
      try clear c5
      try clear c5b0
      try clear p6
      try clear c7
      try clear c7b0
      try clear c7b1
      try clear c8
      try clear c8b0
      try clear c8b1
      try clear c12
      try clear c12b0
      try clear c12b1
      try clear c13
      try clear c13b0
      try clear c13b1
      obtain ⟨kq, x5_3, HA, HJ3, ⟨e_, HO_5⟩, HB⟩ := hcut
      cases kq with
      | zero => exact absurd HA.out (by simp [dbus_EscapeBusAddressValue.j0])
      | succ kj3 =>
        have H := HA.out
        clear HA
        simp only [dbus_EscapeBusAddressValue.j0] at H
        have H' := Aside0.mk H
        clear H
        go_wp2
        go_loopg [7, 8] kj3 (fun kq v7 v8 w' => ∃ (x5_2 : List Int) (x7_2 : Int) (x8_2 : Int), v7 = .int .i64 x7_2 ∧ v8 = .int .i64 x8_2 ∧ Aside0 (dbus_EscapeBusAddressValue.l0 kq a0 x5_2 x7_2 x8_2 = some r) ∧ Aside0 (kq ≤ kj3) ∧ Aside0 (Kd.R (Kd.int .u8) e_ w' w.heap.size (fun _ => True) u5 x5_2) ∧ Aside0 (Below w.heap.size w w'))
        case atStart => exact ⟨(x5_3), (0), (0), (by first | rfl | (simp; done) | (simp [*]; done)), (by first | rfl | (simp; done) | (simp [*]; done)), H', ⟨Nat.le_refl _⟩, ⟨by (with_reducible repeat (first | apply Kd.R_alloc | apply Kd.R_drewN | apply Kd.R_drew)); exact HO_5.out⟩, ⟨by repeat (first | (with_reducible first | exact HB.out | apply below_alloc | apply pw_below_drewN | apply below_drew1) | exact HB.out)⟩⟩
        case round =>
          clear H'
          try clear c1
          try clear c2
          try clear p2
          try clear c3
          try clear c3b0
          try clear c3b1
          try clear c5
          try clear c5b0
          try clear p6
          try clear c7
          try clear c7b0
          try clear c7b1
          try clear c8
          try clear c8b0
          try clear c8b1
          try clear c12
          try clear c12b0
          try clear c12b1
          try clear c13
          try clear c13b0
          try clear c13b1
          try clear p2
          try clear p6
          obtain ⟨x5_2, x7_2, x8_2, rfl, rfl, HA, HK2, HO_5, HB⟩ := hrel
          cases gk with
          | zero => exact absurd HA.out (by simp [dbus_EscapeBusAddressValue.l0])
          | succ k2 =>
            have H := HA.out
            clear HA
            simp only [dbus_EscapeBusAddressValue.l0] at H
            by_cases c16 : x8_2 < (a0.size : Int)
            · rw [if_pos c16] at H
              have c16b0 : decide (x8_2 < (a0.size : Int)) = true := decide_eq_true c16
              clear c16
              by_cases c17 : 0 ≤ x8_2
              · rw [if_pos c17] at H
                have c17b0 : decide (0 ≤ x8_2) = true := decide_eq_true c17
                clear c17
                replace H := Option.bind_eq_some_iff.mp H
                obtain ⟨t109, A190, H⟩ := H
                replace H : (if t109 = true then (if 0 ≤ x7_2 then (if x7_2 < (x5_2.length : Int) then ((dbus_hexchar.f ((bt a0 x8_2) / 16)).bind fun t111 => (if 0 ≤ (wrap64 (x7_2 + 1)) then (if (wrap64 (x7_2 + 1)) < (x5_2.length : Int) then ((dbus_hexchar.f (Go.bits .and .u8 (bt a0 x8_2) 15)).bind fun t113 => (if 0 ≤ (wrap64 (x7_2 + 2)) then (if (wrap64 (x7_2 + 2)) < (x5_2.length : Int) then (dbus_EscapeBusAddressValue.l0 k2 a0 (((x5_2.set (x7_2 : Int).toNat 37).set ((wrap64 (x7_2 + 1)) : Int).toNat t111).set ((wrap64 (x7_2 + 2)) : Int).toNat t113) (wrap64 (x7_2 + 3)) (wrap64 (x8_2 + 1))) else (none)) else (none))) else (none)) else (none))) else (none)) else (none)) else (if 0 ≤ x7_2 then (if x7_2 < (x5_2.length : Int) then (dbus_EscapeBusAddressValue.l0 k2 a0 (x5_2.set (x7_2 : Int).toNat (bt a0 x8_2)) (wrap64 (x7_2 + 1)) (wrap64 (x8_2 + 1))) else (none)) else (none))) = some r := H
                have A19 := Aside0.mk A190
                clear A190
                by_cases c20 : t109 = true
                · subst c20
                  have H1 : (if 0 ≤ x7_2 then (if x7_2 < (x5_2.length : Int) then ((dbus_hexchar.f ((bt a0 x8_2) / 16)).bind fun t111 => (if 0 ≤ (wrap64 (x7_2 + 1)) then (if (wrap64 (x7_2 + 1)) < (x5_2.length : Int) then ((dbus_hexchar.f (Go.bits .and .u8 (bt a0 x8_2) 15)).bind fun t113 => (if 0 ≤ (wrap64 (x7_2 + 2)) then (if (wrap64 (x7_2 + 2)) < (x5_2.length : Int) then (dbus_EscapeBusAddressValue.l0 k2 a0 (((x5_2.set (x7_2 : Int).toNat 37).set ((wrap64 (x7_2 + 1)) : Int).toNat t111).set ((wrap64 (x7_2 + 2)) : Int).toNat t113) (wrap64 (x7_2 + 3)) (wrap64 (x8_2 + 1))) else (none)) else (none))) else (none)) else (none))) else (none)) else (none)) = some r := by rw [if_pos rfl] at H; exact H
                  clear H
                  have H := H1
                  clear H1
                  by_cases c21 : 0 ≤ x7_2
                  · rw [if_pos c21] at H
                    have c21b0 : decide (0 ≤ x7_2) = true := decide_eq_true c21
                    clear c21
                    by_cases c22 : x7_2 < (x5_2.length : Int)
                    · rw [if_pos c22] at H
                      have c22b0 : decide (x7_2 < (x5_2.length : Int)) = true := decide_eq_true c22
                      clear c22
                      obtain ⟨y110, hy110⟩ : ∃ y_ : List Int, y_ = (x5_2.set (x7_2 : Int).toNat 37) := ⟨_, rfl⟩
                      replace H : ((dbus_hexchar.f ((bt a0 x8_2) / 16)).bind fun t111 => (if 0 ≤ (wrap64 (x7_2 + 1)) then (if (wrap64 (x7_2 + 1)) < (x5_2.length : Int) then ((dbus_hexchar.f (Go.bits .and .u8 (bt a0 x8_2) 15)).bind fun t113 => (if 0 ≤ (wrap64 (x7_2 + 2)) then (if (wrap64 (x7_2 + 2)) < (x5_2.length : Int) then (dbus_EscapeBusAddressValue.l0 k2 a0 ((y110.set ((wrap64 (x7_2 + 1)) : Int).toNat t111).set ((wrap64 (x7_2 + 2)) : Int).toNat t113) (wrap64 (x7_2 + 3)) (wrap64 (x8_2 + 1))) else (none)) else (none))) else (none)) else (none))) = some r := by first | (rw [hy110]; with_reducible exact H) | (have H2_ := (Option.bind_some _ _).symm.trans H; rw [hy110]; with_reducible exact H2_) | (have H2_ := (Option.bind_some _ _).symm.trans H; with_reducible exact H2_) | with_reducible exact H | (rw [hy110]; exact H) | exact H
                      have Ny110 := Aside0.mk hy110
                      clear hy110
                      replace H := Option.bind_eq_some_iff.mp H
                      obtain ⟨t111, A240, H⟩ := H
                      replace H : (if 0 ≤ (wrap64 (x7_2 + 1)) then (if (wrap64 (x7_2 + 1)) < (x5_2.length : Int) then ((dbus_hexchar.f (Go.bits .and .u8 (bt a0 x8_2) 15)).bind fun t113 => (if 0 ≤ (wrap64 (x7_2 + 2)) then (if (wrap64 (x7_2 + 2)) < (x5_2.length : Int) then (dbus_EscapeBusAddressValue.l0 k2 a0 ((y110.set ((wrap64 (x7_2 + 1)) : Int).toNat t111).set ((wrap64 (x7_2 + 2)) : Int).toNat t113) (wrap64 (x7_2 + 3)) (wrap64 (x8_2 + 1))) else (none)) else (none))) else (none)) else (none)) = some r := H
                      have A24 := Aside0.mk A240
                      clear A240
                      obtain ⟨ji25, hji25⟩ : ∃ j_ : Int, (wrap64 (x7_2 + 1)) = j_ := ⟨_, rfl⟩
                      replace H : (if 0 ≤ (ji25) then (if (ji25) < (x5_2.length : Int) then ((dbus_hexchar.f (Go.bits .and .u8 (bt a0 x8_2) 15)).bind fun t113 => (if 0 ≤ (wrap64 (x7_2 + 2)) then (if (wrap64 (x7_2 + 2)) < (x5_2.length : Int) then (dbus_EscapeBusAddressValue.l0 k2 a0 ((y110.set ((ji25) : Int).toNat t111).set ((wrap64 (x7_2 + 2)) : Int).toNat t113) (wrap64 (x7_2 + 3)) (wrap64 (x8_2 + 1))) else (none)) else (none))) else (none)) else (none)) = some r := by first | (rw [hji25] at H; exact H) | (simp only [hji25] at H ⊢; exact H)
                      (try rw [hji25] at A19)
                      (try rw [hji25] at A24)
                      have hji25w : (IntKind.i64.wrap (x7_2 + 1)) = ji25 := (i64_w _).trans hji25
                      by_cases c26 : 0 ≤ (ji25)
                      · rw [if_pos c26] at H
                        have c26b0 : decide (0 ≤ (ji25)) = true := decide_eq_true c26
                        clear c26
                        by_cases c27 : (ji25) < (x5_2.length : Int)
                        · rw [if_pos c27] at H
                          have c27b0 : decide ((ji25) < (x5_2.length : Int)) = true := decide_eq_true c27
                          clear c27
                          obtain ⟨y112, hy112⟩ : ∃ y_ : List Int, y_ = (y110.set ((ji25) : Int).toNat t111) := ⟨_, rfl⟩
                          replace H : ((dbus_hexchar.f (Go.bits .and .u8 (bt a0 x8_2) 15)).bind fun t113 => (if 0 ≤ (wrap64 (x7_2 + 2)) then (if (wrap64 (x7_2 + 2)) < (x5_2.length : Int) then (dbus_EscapeBusAddressValue.l0 k2 a0 (y112.set ((wrap64 (x7_2 + 2)) : Int).toNat t113) (wrap64 (x7_2 + 3)) (wrap64 (x8_2 + 1))) else (none)) else (none))) = some r := by first | (rw [hy112]; with_reducible exact H) | (have H2_ := (Option.bind_some _ _).symm.trans H; rw [hy112]; with_reducible exact H2_) | (have H2_ := (Option.bind_some _ _).symm.trans H; with_reducible exact H2_) | with_reducible exact H | (rw [hy112]; exact H) | exact H
                          have Ny112 := Aside0.mk hy112
                          clear hy112
                          replace H := Option.bind_eq_some_iff.mp H
                          obtain ⟨t113, A290, H⟩ := H
                          replace H : (if 0 ≤ (wrap64 (x7_2 + 2)) then (if (wrap64 (x7_2 + 2)) < (x5_2.length : Int) then (dbus_EscapeBusAddressValue.l0 k2 a0 (y112.set ((wrap64 (x7_2 + 2)) : Int).toNat t113) (wrap64 (x7_2 + 3)) (wrap64 (x8_2 + 1))) else (none)) else (none)) = some r := H
                          have A29 := Aside0.mk A290
                          clear A290
                          obtain ⟨ji30, hji30⟩ : ∃ j_ : Int, (wrap64 (x7_2 + 2)) = j_ := ⟨_, rfl⟩
                          replace H : (if 0 ≤ (ji30) then (if (ji30) < (x5_2.length : Int) then (dbus_EscapeBusAddressValue.l0 k2 a0 (y112.set ((ji30) : Int).toNat t113) (wrap64 (x7_2 + 3)) (wrap64 (x8_2 + 1))) else (none)) else (none)) = some r := by first | (rw [hji30] at H; exact H) | (simp only [hji30] at H ⊢; exact H)
                          (try rw [hji30] at A19)
                          (try rw [hji30] at A24)
                          (try rw [hji30] at A29)
                          have hji30w : (IntKind.i64.wrap (x7_2 + 2)) = ji30 := (i64_w _).trans hji30
                          by_cases c31 : 0 ≤ (ji30)
                          · rw [if_pos c31] at H
                            have c31b0 : decide (0 ≤ (ji30)) = true := decide_eq_true c31
                            clear c31
                            by_cases c32 : (ji30) < (x5_2.length : Int)
                            · rw [if_pos c32] at H
                              have c32b0 : decide ((ji30) < (x5_2.length : Int)) = true := decide_eq_true c32
                              clear c32
                              obtain ⟨y114, hy114⟩ : ∃ y_ : List Int, y_ = (y112.set ((ji30) : Int).toNat t113) := ⟨_, rfl⟩
                              replace H : (dbus_EscapeBusAddressValue.l0 k2 a0 y114 (wrap64 (x7_2 + 3)) (wrap64 (x8_2 + 1))) = some r := by first | (rw [hy114]; with_reducible exact H) | (have H2_ := (Option.bind_some _ _).symm.trans H; rw [hy114]; with_reducible exact H2_) | (have H2_ := (Option.bind_some _ _).symm.trans H; with_reducible exact H2_) | with_reducible exact H | (rw [hy114]; exact H) | exact H
                              have Ny114 := Aside0.mk hy114
                              clear hy114
                              have H' := Aside0.mk H
                              clear H
                              have p18 : 0 ≤ (x8_2 : Int) := of_decide_eq_true (by first | (with_reducible assumption) | assumption)
                              have q18 : x8_2 < (a0.size : Int) := of_decide_eq_true (by first | (with_reducible assumption) | assumption)
                              have hx18 := bt_at a0 x8_2
                              replace p18 := eq_true p18
                              replace q18 := eq_true q18
                              go_wp2_with (first | ((with_reducible refine gate_callee (f := 35) rfl ?_); refine goesL_ (some 36) rfl rfl Try.func35 (by kernel_rfl) rfl #[.int .u8 (bt a0 x8_2)] rfl (by (try simp only [List.map_toArray, List.map_cons, List.map_nil]); first | done | rfl | (simp only [List.length_drop, List.length_take]; rfl)) ?_; (with_reducible refine (dbus_needsEscape.calls k2 (bt a0 x8_2) true _ A19.out).mono ?_); rintro e w' ⟨rfl, ⟨nd, rfl⟩⟩; refine ⟨_, rfl, ?_⟩; (try (rw [drewN_self wr]; generalize hq_ : World.drewN wr _ = wr; have n0_ : Aside0 (Kd.R (Kd.int .u8) e_ wr w.heap.size (fun _ => True) u5 x5_2) := ⟨by rw [← hq_]; exact (by (with_reducible repeat (first | apply Kd.R_alloc | apply Kd.R_drewN | apply Kd.R_drew)); exact HO_5.out)⟩; have n1_ : Aside0 (Below w.heap.size w wr) := ⟨by rw [← hq_]; exact (by repeat (first | (with_reducible first | exact HB.out | apply below_alloc | apply pw_below_drewN | apply below_drew1) | exact HB.out))⟩; clear HO_5 HB hq_; have HO_5 := n0_; have HB := n1_; clear n0_ n1_)); have p23 : 0 ≤ (x7_2 : Int) := of_decide_eq_true (by first | (with_reducible assumption) | assumption); have q23 : (x7_2 : Int) < ((x5_2.length : Int) : Int) := of_decide_eq_true (by first | (with_reducible assumption) | assumption); obtain ⟨go23, co23, eo23, gb23, gl23, cl23, HG23⟩ := Kd.R_form HO_5.out (by omega); (first | cases eo23 | (injection eo23 with ea_ en_ ec_; (first | subst ea_ | (injection ea_ with ea_; subst ea_)); subst ec_; clear en_)); have GB23 := Aside0.mk gb23; have GG23 := Aside0.mk HG23; clear gb23 gl23 HG23; obtain ⟨hx23_0, hf23_0⟩ := Kd.R_celln 0 HO_5.out (x7_2 : Int) p23 q23; replace p23 := eq_true p23; replace q23 := eq_true q23; obtain ⟨hy34_, hz34_⟩ := Kd.R_celln 0 HO_5.out (x7_2 : Int) (of_decide_eq_true (by first | (with_reducible assumption) | assumption)) (of_decide_eq_true (by first | (with_reducible assumption) | assumption)); have HP34 := Kd.R_putg HO_5.out (x7_2 : Int) 37) | ((with_reducible refine gate_store (t := 5) (p := 39) rfl ?_); refine store_event (t := 5) (p := 39) (v := ?vo_w35) (w1 := (wr.setCell ⟨go23, (x7_2 : Int).toNat, none⟩ (.int .u8 37))) ?hg ?ho ?hn ?hr ?_; (case ho => rfl); (case hg => rfl); (case hn => rfl); (case hr => first | (go_simp; done) | (go_simp; rfl)); intro w35 hw; have hg : wr.grownBy w35 (some go23) := (by rw [hw]; exact HP34.2); have hp_ : Kd.R (Kd.int .u8) e_ w35 w.heap.size (fun _ => True) (.slice (some ⟨go23, 0, none⟩) x5_2.length co23) y110 := (by rw [hw, Ny110.out]; exact HP34.1); clear HP34; have n0_ := Aside0.mk (hp_); have n1_ := Aside0.mk ((by rw [hw]; exact below_set (HB.out) GB23.out : Below w.heap.size w w35)); clear HO_5; clear HB; have HO_5 := n0_; have HB := n1_; clear n0_ n1_; clear hg hw hp_) | ((with_reducible refine gate_callee (f := 36) rfl ?_); refine goesL_ (some 45) rfl rfl Try.func36 (by kernel_rfl) rfl #[.int .u8 ((bt a0 x8_2) / 16)] rfl (by (try simp only [List.map_toArray, List.map_cons, List.map_nil]); first | done | rfl | (simp only [List.length_drop, List.length_take]; rfl)) ?_; (with_reducible refine (dbus_hexchar.calls ((bt a0 x8_2) / 16) t111 _ A24.out).mono ?_); rintro e w' ⟨rfl, ⟨nd, rfl⟩⟩; refine ⟨_, rfl, ?_⟩; (try (rw [drewN_self w35]; generalize hq_ : World.drewN w35 _ = w35; have n0_ : Aside0 (Kd.R (Kd.int .u8) e_ w35 w.heap.size (fun _ => True) (.slice (some ⟨go23, 0, none⟩) x5_2.length co23) y110) := ⟨by rw [← hq_]; exact (by (with_reducible repeat (first | apply Kd.R_alloc | apply Kd.R_drewN | apply Kd.R_drew)); exact HO_5.out)⟩; have n1_ : Aside0 (Below w.heap.size w w35) := ⟨by rw [← hq_]; exact (by repeat (first | (with_reducible first | exact HB.out | apply below_alloc | apply pw_below_drewN | apply below_drew1) | exact HB.out))⟩; clear HO_5 HB hq_; have HO_5 := n0_; have HB := n1_; clear n0_ n1_)); have p28 : 0 ≤ ((ji25) : Int) := of_decide_eq_true (by first | (with_reducible assumption) | assumption); have q28 : ((ji25) : Int) < ((x5_2.length : Int) : Int) := of_decide_eq_true (by first | (with_reducible assumption) | assumption); obtain ⟨hx28_0, hf28_0⟩ := Kd.R_celln 0 HO_5.out ((ji25) : Int) p28 q28; replace p28 := eq_true p28; replace q28 := eq_true q28; obtain ⟨hy36_, hz36_⟩ := Kd.R_celln 0 HO_5.out ((ji25) : Int) (of_decide_eq_true (by first | (with_reducible assumption) | assumption)) (of_decide_eq_true (by first | (with_reducible assumption) | assumption)); have HP36 := Kd.R_putg HO_5.out ((ji25) : Int) t111) | ((with_reducible refine gate_store (t := 5) (p := 46) rfl ?_); refine store_event (t := 5) (p := 46) (v := ?vo_w37) (w1 := (w35.setCell ⟨go23, ((ji25) : Int).toNat, none⟩ (.int .u8 t111))) ?hg ?ho ?hn ?hr ?_; (case ho => rfl); (case hg => rfl); (case hn => rfl); (case hr => first | (go_simp; done) | (go_simp; rfl)); intro w37 hw; have hg : w35.grownBy w37 (some go23) := (by rw [hw]; exact HP36.2); have hp_ : Kd.R (Kd.int .u8) e_ w37 w.heap.size (fun _ => True) (.slice (some ⟨go23, 0, none⟩) x5_2.length co23) y112 := (by rw [hw, Ny112.out]; exact HP36.1); clear HP36; have n0_ := Aside0.mk (hp_); have n1_ := Aside0.mk ((by rw [hw]; exact below_set (HB.out) GB23.out : Below w.heap.size w w37)); clear HO_5; clear HB; have HO_5 := n0_; have HB := n1_; clear n0_ n1_; clear hg hw hp_) | ((with_reducible refine gate_callee (f := 36) rfl ?_); refine goesL_ (some 52) rfl rfl Try.func36 (by kernel_rfl) rfl #[.int .u8 (Go.bits .and .u8 (bt a0 x8_2) 15)] rfl (by (try simp only [List.map_toArray, List.map_cons, List.map_nil]); first | done | rfl | (simp only [List.length_drop, List.length_take]; rfl)) ?_; (with_reducible refine (dbus_hexchar.calls (Go.bits .and .u8 (bt a0 x8_2) 15) t113 _ A29.out).mono ?_); rintro e w' ⟨rfl, ⟨nd, rfl⟩⟩; refine ⟨_, rfl, ?_⟩; (try (rw [drewN_self w37]; generalize hq_ : World.drewN w37 _ = w37; have n0_ : Aside0 (Kd.R (Kd.int .u8) e_ w37 w.heap.size (fun _ => True) (.slice (some ⟨go23, 0, none⟩) x5_2.length co23) y112) := ⟨by rw [← hq_]; exact (by (with_reducible repeat (first | apply Kd.R_alloc | apply Kd.R_drewN | apply Kd.R_drew)); exact HO_5.out)⟩; have n1_ : Aside0 (Below w.heap.size w w37) := ⟨by rw [← hq_]; exact (by repeat (first | (with_reducible first | exact HB.out | apply below_alloc | apply pw_below_drewN | apply below_drew1) | exact HB.out))⟩; clear HO_5 HB hq_; have HO_5 := n0_; have HB := n1_; clear n0_ n1_)); have p33 : 0 ≤ ((ji30) : Int) := of_decide_eq_true (by first | (with_reducible assumption) | assumption); have q33 : ((ji30) : Int) < ((x5_2.length : Int) : Int) := of_decide_eq_true (by first | (with_reducible assumption) | assumption); obtain ⟨hx33_0, hf33_0⟩ := Kd.R_celln 0 HO_5.out ((ji30) : Int) p33 q33; replace p33 := eq_true p33; replace q33 := eq_true q33; obtain ⟨hy38_, hz38_⟩ := Kd.R_celln 0 HO_5.out ((ji30) : Int) (of_decide_eq_true (by first | (with_reducible assumption) | assumption)) (of_decide_eq_true (by first | (with_reducible assumption) | assumption)); have HP38 := Kd.R_putg HO_5.out ((ji30) : Int) t113) | ((with_reducible refine gate_store (t := 5) (p := 53) rfl ?_); refine store_event (t := 5) (p := 53) (v := ?vo_w39) (w1 := (w37.setCell ⟨go23, ((ji30) : Int).toNat, none⟩ (.int .u8 t113))) ?hg ?ho ?hn ?hr ?_; (case ho => rfl); (case hg => rfl); (case hn => rfl); (case hr => first | (go_simp; done) | (go_simp; rfl)); intro w39 hw; have hg : w37.grownBy w39 (some go23) := (by rw [hw]; exact HP38.2); have hp_ : Kd.R (Kd.int .u8) e_ w39 w.heap.size (fun _ => True) (.slice (some ⟨go23, 0, none⟩) x5_2.length co23) y114 := (by rw [hw, Ny114.out]; exact HP38.1); clear HP38; have n0_ := Aside0.mk (hp_); have n1_ := Aside0.mk ((by rw [hw]; exact below_set (HB.out) GB23.out : Below w.heap.size w w39)); clear HO_5; clear HB; have HO_5 := n0_; have HB := n1_; clear n0_ n1_; clear hg hw hp_))
                              go_roundg k2
                              case measure => have := HJ3.out; have := HK2.out; omega
                              case rel => exact ⟨(y114), (wrap64 (x7_2 + 3)), (wrap64 (x8_2 + 1)), (by first | rfl | (simp; done) | (simp [*]; done)), (by first | rfl | (simp; done) | (simp [*]; done)), H', ⟨by have := HJ3.out; have := HK2.out; omega⟩, ⟨by (with_reducible repeat (first | apply Kd.R_alloc | apply Kd.R_drewN | apply Kd.R_drew)); exact HO_5.out⟩, ⟨by repeat (first | (with_reducible first | exact HB.out | apply below_alloc | apply pw_below_drewN | apply below_drew1) | exact HB.out)⟩⟩
                            · rw [if_neg c32] at H
                              exact absurd H (by simp)
                          · rw [if_neg c31] at H
                            exact absurd H (by simp)
                        · rw [if_neg c27] at H
                          exact absurd H (by simp)
                      · rw [if_neg c26] at H
                        exact absurd H (by simp)
                    · rw [if_neg c22] at H
                      exact absurd H (by simp)
                  · rw [if_neg c21] at H
                    exact absurd H (by simp)
                · replace c20 := Bool.eq_false_iff.mpr c20
                  subst c20
                  have H1 : (if 0 ≤ x7_2 then (if x7_2 < (x5_2.length : Int) then (dbus_EscapeBusAddressValue.l0 k2 a0 (x5_2.set (x7_2 : Int).toNat (bt a0 x8_2)) (wrap64 (x7_2 + 1)) (wrap64 (x8_2 + 1))) else (none)) else (none)) = some r := by rw [if_neg (show ¬ (false = true) by decide)] at H; exact H
                  clear H
                  have H := H1
                  clear H1
                  by_cases c40 : 0 ≤ x7_2
                  · rw [if_pos c40] at H
                    have c40b0 : decide (0 ≤ x7_2) = true := decide_eq_true c40
                    clear c40
                    by_cases c41 : x7_2 < (x5_2.length : Int)
                    · rw [if_pos c41] at H
                      have c41b0 : decide (x7_2 < (x5_2.length : Int)) = true := decide_eq_true c41
                      clear c41
                      obtain ⟨y115, hy115⟩ : ∃ y_ : List Int, y_ = (x5_2.set (x7_2 : Int).toNat (bt a0 x8_2)) := ⟨_, rfl⟩
                      replace H : (dbus_EscapeBusAddressValue.l0 k2 a0 y115 (wrap64 (x7_2 + 1)) (wrap64 (x8_2 + 1))) = some r := by first | (rw [hy115]; with_reducible exact H) | (have H2_ := (Option.bind_some _ _).symm.trans H; rw [hy115]; with_reducible exact H2_) | (have H2_ := (Option.bind_some _ _).symm.trans H; with_reducible exact H2_) | with_reducible exact H | (rw [hy115]; exact H) | exact H
                      have Ny115 := Aside0.mk hy115
                      clear hy115
                      have H' := Aside0.mk H
                      clear H
                      have p18 : 0 ≤ (x8_2 : Int) := of_decide_eq_true (by first | (with_reducible assumption) | assumption)
                      have q18 : x8_2 < (a0.size : Int) := of_decide_eq_true (by first | (with_reducible assumption) | assumption)
                      have hx18 := bt_at a0 x8_2
                      replace p18 := eq_true p18
                      replace q18 := eq_true q18
                      go_wp2_with (first | ((with_reducible refine gate_callee (f := 35) rfl ?_); refine goesL_ (some 36) rfl rfl Try.func35 (by kernel_rfl) rfl #[.int .u8 (bt a0 x8_2)] rfl (by (try simp only [List.map_toArray, List.map_cons, List.map_nil]); first | done | rfl | (simp only [List.length_drop, List.length_take]; rfl)) ?_; (with_reducible refine (dbus_needsEscape.calls k2 (bt a0 x8_2) false _ A19.out).mono ?_); rintro e w' ⟨rfl, ⟨nd, rfl⟩⟩; refine ⟨_, rfl, ?_⟩; (try (rw [drewN_self wr]; generalize hq_ : World.drewN wr _ = wr; have n0_ : Aside0 (Kd.R (Kd.int .u8) e_ wr w.heap.size (fun _ => True) u5 x5_2) := ⟨by rw [← hq_]; exact (by (with_reducible repeat (first | apply Kd.R_alloc | apply Kd.R_drewN | apply Kd.R_drew)); exact HO_5.out)⟩; have n1_ : Aside0 (Below w.heap.size w wr) := ⟨by rw [← hq_]; exact (by repeat (first | (with_reducible first | exact HB.out | apply below_alloc | apply pw_below_drewN | apply below_drew1) | exact HB.out))⟩; clear HO_5 HB hq_; have HO_5 := n0_; have HB := n1_; clear n0_ n1_)); have p42 : 0 ≤ (x7_2 : Int) := of_decide_eq_true (by first | (with_reducible assumption) | assumption); have q42 : (x7_2 : Int) < ((x5_2.length : Int) : Int) := of_decide_eq_true (by first | (with_reducible assumption) | assumption); obtain ⟨go42, co42, eo42, gb42, gl42, cl42, HG42⟩ := Kd.R_form HO_5.out (by omega); (first | cases eo42 | (injection eo42 with ea_ en_ ec_; (first | subst ea_ | (injection ea_ with ea_; subst ea_)); subst ec_; clear en_)); have GB42 := Aside0.mk gb42; have GG42 := Aside0.mk HG42; clear gb42 gl42 HG42; obtain ⟨hx42_0, hf42_0⟩ := Kd.R_celln 0 HO_5.out (x7_2 : Int) p42 q42; replace p42 := eq_true p42; replace q42 := eq_true q42; obtain ⟨hy43_, hz43_⟩ := Kd.R_celln 0 HO_5.out (x7_2 : Int) (of_decide_eq_true (by first | (with_reducible assumption) | assumption)) (of_decide_eq_true (by first | (with_reducible assumption) | assumption)); have HP43 := Kd.R_putg HO_5.out (x7_2 : Int) (bt a0 x8_2)) | ((with_reducible refine gate_store (t := 5) (p := 59) rfl ?_); refine store_event (t := 5) (p := 59) (v := ?vo_w44) (w1 := (wr.setCell ⟨go42, (x7_2 : Int).toNat, none⟩ (.int .u8 (bt a0 x8_2)))) ?hg ?ho ?hn ?hr ?_; (case ho => rfl); (case hg => rfl); (case hn => rfl); (case hr => first | (go_simp; done) | (go_simp; rfl)); intro w44 hw; have hg : wr.grownBy w44 (some go42) := (by rw [hw]; exact HP43.2); have hp_ : Kd.R (Kd.int .u8) e_ w44 w.heap.size (fun _ => True) (.slice (some ⟨go42, 0, none⟩) x5_2.length co42) y115 := (by rw [hw, Ny115.out]; exact HP43.1); clear HP43; have n0_ := Aside0.mk (hp_); have n1_ := Aside0.mk ((by rw [hw]; exact below_set (HB.out) GB42.out : Below w.heap.size w w44)); clear HO_5; clear HB; have HO_5 := n0_; have HB := n1_; clear n0_ n1_; clear hg hw hp_))
                      go_roundg k2
                      case measure => have := HJ3.out; have := HK2.out; omega
                      case rel => exact ⟨(y115), (wrap64 (x7_2 + 1)), (wrap64 (x8_2 + 1)), (by first | rfl | (simp; done) | (simp [*]; done)), (by first | rfl | (simp; done) | (simp [*]; done)), H', ⟨by have := HJ3.out; have := HK2.out; omega⟩, ⟨by (with_reducible repeat (first | apply Kd.R_alloc | apply Kd.R_drewN | apply Kd.R_drew)); exact HO_5.out⟩, ⟨by repeat (first | (with_reducible first | exact HB.out | apply below_alloc | apply pw_below_drewN | apply below_drew1) | exact HB.out)⟩⟩
                    · rw [if_neg c41] at H
                      exact absurd H (by simp)
                  · rw [if_neg c40] at H
                    exact absurd H (by simp)
              · rw [if_neg c17] at H
                exact absurd H (by simp)
            · rw [if_neg c16] at H
              have c16b0 : decide (x8_2 < (a0.size : Int)) = false := decide_eq_false c16
              clear c16
              obtain rfl := Option.some.inj H
              have hcv45 := own_string (P := Try.prog) Try.underlying41 Try.underlying5 Try.underlying9 (Kd.own_of_R HO_5.out)
              go_wp2
              go_ret
              exact ⟨by first | rfl | (simp [errW_none, errW_some] <;> rfl) | (simp [*, errW_none, errW_some] <;> rfl), by repeat (first | (with_reducible first | exact HB.out | apply below_alloc | apply pw_below_drewN | apply below_drew1) | exact HB.out)⟩

end Go.Proofs.Ytpndgbiaomglpaa.E
