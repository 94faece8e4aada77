-- Written by a program of this session out of the translation; Lean checks it.
import Derived.Test.YthhehbocbhhbbaaDoorQ0
import Derived.Test.YthhehbocbhhbbaaDoorQ1
import Derived.Test.YthhehbocbhhbbaaDoorQ2
namespace Go.Proofs.YthhehbocbhhbbaaDoor.Q
open Go.RowKit Go.Proofs.YthhehbocbhhbbaaDoor.Vs Go.Proofs.YthhehbocbhhbbaaDoorW.PrintWords Go.Proofs.YthhehbocbhhbbaaDoorW.PrintLast Go.Proofs.YthhehbocbhhbbaaDoorW.PrintMore
attribute [local go_sem] max2_int min2_int max_two min_two max_three min_three max_four min_four   -- for this text's walks alone
set_option linter.unusedVariables false
set_option linter.unusedSimpArgs false

/-! ### spec_Unquoted: function 8 -/
mutual
def spec_Unquoted.l0 : Nat → ByteArray → List Int → Int → Option (ByteArray × Bool)
  | 0, _, _, _ => none
  | k + 1, x0, x4, x5 => if x5 < (wrap64 ((x0.size : Int) - 1)) then (if 0 ≤ x5 then (if x5 < (x0.size : Int) then (if (bt x0 x5) = 92 then (if 0 ≤ (wrap64 (x5 + 1)) then (if (wrap64 (x5 + 1)) < (x0.size : Int) then (if (bt x0 (wrap64 (x5 + 1))) = 117 then (spec_Unquoted.j1 k x0 x4 (wrap64 (x5 + 1)) (bt x0 (wrap64 (x5 + 1))) (bt x0 (wrap64 (x5 + 1))) ((bt x0 (wrap64 (x5 + 1))) == 117)) else (spec_Unquoted.j1 k x0 x4 (wrap64 (x5 + 1)) (bt x0 (wrap64 (x5 + 1))) (bt x0 (wrap64 (x5 + 1))) ((bt x0 (wrap64 (x5 + 1))) == 85))) else (none)) else (none)) else (if x4.length < 140737488355328 then (spec_Unquoted.l0 k x0 (x4 ++ [bt x0 x5]) (wrap64 (x5 + 1))) else (none))) else (none)) else (none)) else (some (strOfNums x4, true))
def spec_Unquoted.j1 : Nat → ByteArray → List Int → Int → Int → Int → Bool → Option (ByteArray × Bool)
  | 0, _, _, _, _, _, _ => none
  | k + 1, x0, x4, x5, x6, x34, x40 => if x40 = true then (if x6 = 85 then (spec_Unquoted.j2 k x0 x4 x5 0 8) else (spec_Unquoted.j2 k x0 x4 x5 0 4)) else (if x34 = 10 then (spec_Unquoted.l0 k x0 x4 (wrap64 (x5 + 1))) else ((spec_escapedAs.f k x6).bind fun t152 => (if x4.length < 140737488355328 then (spec_Unquoted.l0 k x0 (x4 ++ [t152]) (wrap64 (x5 + 1))) else (none))))
def spec_Unquoted.j2 : Nat → ByteArray → List Int → Int → Int → Int → Option (ByteArray × Bool)
  | 0, _, _, _, _, _ => none
  | k + 1, x0, x4, x5, x7, x8 => spec_Unquoted.l1 k x0 x4 x5 x7 x8 0
def spec_Unquoted.l1 : Nat → ByteArray → List Int → Int → Int → Int → Int → Option (ByteArray × Bool)
  | 0, _, _, _, _, _, _ => none
  | k + 1, x0, x4, x5, x7, x8, x9 => if x9 < x8 then (if (wrap64 (x5 + 1)) < (wrap64 ((x0.size : Int) - 1)) then (if 0 ≤ (wrap64 (x5 + 1)) then (if (wrap64 (x5 + 1)) < (x0.size : Int) then ((spec_hexDigit.f k (bt x0 (wrap64 (x5 + 1)))).bind fun bt150 => (if bt150.2 = true then (spec_Unquoted.l1 k x0 x4 (wrap64 (x5 + 1)) (Go.bits .or .i64 (wrap64 (x7 * 16)) (wrap64 (bt150.1))) x8 (wrap64 (x9 + 1))) else (some ((⟨#[]⟩ : ByteArray), false)))) else (none)) else (none)) else (some ((⟨#[]⟩ : ByteArray), false))) else (if x7 > 1114111 then ((spec_appendUTF8.f k x4 65533).bind fun t138 => (spec_Unquoted.l0 k x0 t138 (wrap64 (x5 + 1)))) else (if 55296 ≤ x7 then (if x7 < 57344 then ((spec_appendUTF8.f k x4 65533).bind fun t141 => (spec_Unquoted.l0 k x0 t141 (wrap64 (x5 + 1)))) else ((spec_appendUTF8.f k x4 x7).bind fun t144 => (spec_Unquoted.l0 k x0 t144 (wrap64 (x5 + 1))))) else ((spec_appendUTF8.f k x4 x7).bind fun t147 => (spec_Unquoted.l0 k x0 t147 (wrap64 (x5 + 1))))))
end
def spec_Unquoted.f (k : Nat) (a0 : ByteArray) : Option (ByteArray × Bool) := spec_Unquoted.l0 k a0 ([] : List Int) 1
theorem spec_Unquoted.mono_l : ∀ k, (∀ y0 y1 y2, LeO (spec_Unquoted.l0 k y0 y1 y2) (spec_Unquoted.l0 (k + 1) y0 y1 y2)) ∧ (∀ y0 y1 y2 y3 y4 y5, LeO (spec_Unquoted.j1 k y0 y1 y2 y3 y4 y5) (spec_Unquoted.j1 (k + 1) y0 y1 y2 y3 y4 y5)) ∧ (∀ y0 y1 y2 y3 y4, LeO (spec_Unquoted.j2 k y0 y1 y2 y3 y4) (spec_Unquoted.j2 (k + 1) y0 y1 y2 y3 y4)) ∧ (∀ y0 y1 y2 y3 y4 y5, LeO (spec_Unquoted.l1 k y0 y1 y2 y3 y4 y5) (spec_Unquoted.l1 (k + 1) y0 y1 y2 y3 y4 y5))
  | 0 => ⟨fun _ _ _ r h => by simp [spec_Unquoted.l0] at h, fun _ _ _ _ _ _ r h => by simp [spec_Unquoted.j1] at h, fun _ _ _ _ _ r h => by simp [spec_Unquoted.j2] at h, fun _ _ _ _ _ _ r h => by simp [spec_Unquoted.l1] at h⟩
  | k + 1 => by
    obtain ⟨ih0, ih1, ih2, ih3⟩ := spec_Unquoted.mono_l k
    refine ⟨?_, ?_, ?_, ?_⟩
    · intro y0 y1 y2
      unfold spec_Unquoted.l0
      repeat' first
      | (with_reducible exact ih0 _ _ _)
      | (with_reducible exact ih1 _ _ _ _ _ _)
      | (with_reducible exact ih2 _ _ _ _ _)
      | (with_reducible exact ih3 _ _ _ _ _ _)
      | (with_reducible exact spec_appendUTF8.mono _ _ _)
      | (with_reducible exact spec_escapedAs.mono _ _)
      | (with_reducible exact spec_hexDigit.mono _ _)
      | (with_reducible exact LeO.refl _)
      | (with_reducible exact LeO.none _)
      | (with_reducible refine LeO.ite ?_ ?_)
      | (with_reducible refine LeO.bind ?_ (fun _ => ?_))
      | exact ih0 _ _ _
      | exact ih1 _ _ _ _ _ _
      | exact ih2 _ _ _ _ _
      | exact ih3 _ _ _ _ _ _
      | exact spec_appendUTF8.mono _ _ _
      | exact spec_escapedAs.mono _ _
      | exact spec_hexDigit.mono _ _
      | exact LeO.none _
      | refine LeO.ite ?_ ?_
      | refine LeO.bind ?_ (fun _ => ?_)
    · intro y0 y1 y2 y3 y4 y5
      unfold spec_Unquoted.j1
      repeat' first
      | (with_reducible exact ih0 _ _ _)
      | (with_reducible exact ih1 _ _ _ _ _ _)
      | (with_reducible exact ih2 _ _ _ _ _)
      | (with_reducible exact ih3 _ _ _ _ _ _)
      | (with_reducible exact spec_appendUTF8.mono _ _ _)
      | (with_reducible exact spec_escapedAs.mono _ _)
      | (with_reducible exact spec_hexDigit.mono _ _)
      | (with_reducible exact LeO.refl _)
      | (with_reducible exact LeO.none _)
      | (with_reducible refine LeO.ite ?_ ?_)
      | (with_reducible refine LeO.bind ?_ (fun _ => ?_))
      | exact ih0 _ _ _
      | exact ih1 _ _ _ _ _ _
      | exact ih2 _ _ _ _ _
      | exact ih3 _ _ _ _ _ _
      | exact spec_appendUTF8.mono _ _ _
      | exact spec_escapedAs.mono _ _
      | exact spec_hexDigit.mono _ _
      | exact LeO.none _
      | refine LeO.ite ?_ ?_
      | refine LeO.bind ?_ (fun _ => ?_)
    · intro y0 y1 y2 y3 y4
      unfold spec_Unquoted.j2
      repeat' first
      | (with_reducible exact ih0 _ _ _)
      | (with_reducible exact ih1 _ _ _ _ _ _)
      | (with_reducible exact ih2 _ _ _ _ _)
      | (with_reducible exact ih3 _ _ _ _ _ _)
      | (with_reducible exact spec_appendUTF8.mono _ _ _)
      | (with_reducible exact spec_escapedAs.mono _ _)
      | (with_reducible exact spec_hexDigit.mono _ _)
      | (with_reducible exact LeO.refl _)
      | (with_reducible exact LeO.none _)
      | (with_reducible refine LeO.ite ?_ ?_)
      | (with_reducible refine LeO.bind ?_ (fun _ => ?_))
      | exact ih0 _ _ _
      | exact ih1 _ _ _ _ _ _
      | exact ih2 _ _ _ _ _
      | exact ih3 _ _ _ _ _ _
      | exact spec_appendUTF8.mono _ _ _
      | exact spec_escapedAs.mono _ _
      | exact spec_hexDigit.mono _ _
      | exact LeO.none _
      | refine LeO.ite ?_ ?_
      | refine LeO.bind ?_ (fun _ => ?_)
    · intro y0 y1 y2 y3 y4 y5
      unfold spec_Unquoted.l1
      repeat' first
      | (with_reducible exact ih0 _ _ _)
      | (with_reducible exact ih1 _ _ _ _ _ _)
      | (with_reducible exact ih2 _ _ _ _ _)
      | (with_reducible exact ih3 _ _ _ _ _ _)
      | (with_reducible exact spec_appendUTF8.mono _ _ _)
      | (with_reducible exact spec_escapedAs.mono _ _)
      | (with_reducible exact spec_hexDigit.mono _ _)
      | (with_reducible exact LeO.refl _)
      | (with_reducible exact LeO.none _)
      | (with_reducible refine LeO.ite ?_ ?_)
      | (with_reducible refine LeO.bind ?_ (fun _ => ?_))
      | exact ih0 _ _ _
      | exact ih1 _ _ _ _ _ _
      | exact ih2 _ _ _ _ _
      | exact ih3 _ _ _ _ _ _
      | exact spec_appendUTF8.mono _ _ _
      | exact spec_escapedAs.mono _ _
      | exact spec_hexDigit.mono _ _
      | exact LeO.none _
      | refine LeO.ite ?_ ?_
      | refine LeO.bind ?_ (fun _ => ?_)
theorem spec_Unquoted.mono : ∀ a0 k, LeO (spec_Unquoted.f k a0) (spec_Unquoted.f (k + 1) a0) := by
  intro a0 k
  obtain ⟨ih0, ih1, ih2, ih3⟩ := spec_Unquoted.mono_l k
  unfold spec_Unquoted.f
  repeat' first
      | (with_reducible exact ih0 _ _ _)
      | (with_reducible exact ih1 _ _ _ _ _ _)
      | (with_reducible exact ih2 _ _ _ _ _)
      | (with_reducible exact ih3 _ _ _ _ _ _)
      | (with_reducible exact spec_appendUTF8.mono _ _ _)
      | (with_reducible exact spec_escapedAs.mono _ _)
      | (with_reducible exact spec_hexDigit.mono _ _)
      | (with_reducible exact LeO.refl _)
      | (with_reducible exact LeO.none _)
      | (with_reducible refine LeO.ite ?_ ?_)
      | (with_reducible refine LeO.bind ?_ (fun _ => ?_))
      | exact ih0 _ _ _
      | exact ih1 _ _ _ _ _ _
      | exact ih2 _ _ _ _ _
      | exact ih3 _ _ _ _ _ _
      | exact spec_appendUTF8.mono _ _ _
      | exact spec_escapedAs.mono _ _
      | exact spec_hexDigit.mono _ _
      | exact LeO.none _
      | refine LeO.ite ?_ ?_
      | refine LeO.bind ?_ (fun _ => ?_)
set_option maxHeartbeats 8000000 in
set_option maxRecDepth 100000 in
theorem spec_Unquoted.calls (k : Nat) (a0 : ByteArray) (r1 : ByteArray) (r2 : Bool) (w : World) (h : spec_Unquoted.f k a0 = some (r1, r2)) :
    Calls Tryd.prog 8 #[.string a0] w fun e w' => e = .returned (.tuple #[.string r1, .bool r2]) ∧ Below w.heap.size w w' := by
  have HB := Aside0.mk (Below.refl w.heap.size w)
  have H : (spec_Unquoted.l0 k a0 ([] : List Int) 1) = some (r1, r2) := h
  clear h
  have H' := Aside0.mk H
  clear H
  go_enter Tryd.func8, Tryd.ntmps8
  go_wp2
  go_loopg [4, 5] k (fun kq v4 v5 w' => ∃ (x4_1 : List Int) (x5_1 : Int), v5 = .int .i64 x5_1 ∧ Aside0 (spec_Unquoted.l0 kq a0 x4_1 x5_1 = some (r1, r2)) ∧ Aside0 (kq ≤ k) ∧ Aside0 (Kd.R (Kd.int .u8) 5 w' w.heap.size (fun _ => True) v4 x4_1) ∧ Aside0 (Below w.heap.size w w'))
  case atStart => exact ⟨(([] : List Int)), (1), (by first | rfl | (simp; done) | (simp [*]; done)), H', ⟨Nat.le_refl _⟩, ⟨by first | exact Kd.R_nil _ _ _ _ _ | exact Kd.N_nil _ _ _ _ _ | exact Kd.V_nil _ _ _ _ _ | exact Kd.Q_nil _ _ _ _ _ | exact Kd.S_nil _ _ _ _ _⟩, ⟨by repeat (first | (with_reducible first | exact HB.out | apply below_alloc | apply pw_below_drewN | apply below_drew1) | exact HB.out)⟩⟩
  case round =>
    clear H'
    obtain ⟨x4_1, x5_1, rfl, HA, HK1, HO_4, HB⟩ := hrel
    cases gk with
    | zero => exact absurd HA.out (by simp [spec_Unquoted.l0])
    | succ k1 =>
      have H := HA.out
      clear HA
      simp only [spec_Unquoted.l0] at H
      by_cases c2 : x5_1 < (wrap64 ((a0.size : Int) - 1))
      · rw [if_pos c2] at H
        have c2b0 : decide (x5_1 < (wrap64 ((a0.size : Int) - 1))) = true := decide_eq_true c2
        clear c2
        by_cases c3 : 0 ≤ x5_1
        · rw [if_pos c3] at H
          have c3b0 : decide (0 ≤ x5_1) = true := decide_eq_true c3
          clear c3
          by_cases c4 : x5_1 < (a0.size : Int)
          · rw [if_pos c4] at H
            have c4b0 : decide (x5_1 < (a0.size : Int)) = true := decide_eq_true c4
            clear c4
            by_cases c6 : (bt a0 x5_1) = 92
            · rw [if_pos c6] at H
              have c6b0 : ((bt a0 x5_1) == 92) = true := beq_iff_eq.mpr c6
              have c6b1 : ((bt a0 x5_1) != 92) = false := bne_eq_false_iff_eq.mpr c6
              clear c6
              obtain ⟨ji7, hji7⟩ : ∃ j_ : Int, (wrap64 (x5_1 + 1)) = j_ := ⟨_, rfl⟩
              replace H : (if 0 ≤ (ji7) then (if (ji7) < (a0.size : Int) then (if (bt a0 (ji7)) = 117 then (spec_Unquoted.j1 k1 a0 x4_1 ji7 (bt a0 (ji7)) (bt a0 (ji7)) ((bt a0 (ji7)) == 117)) else (spec_Unquoted.j1 k1 a0 x4_1 ji7 (bt a0 (ji7)) (bt a0 (ji7)) ((bt a0 (ji7)) == 85))) else (none)) else (none)) = some (r1, r2) := by first | (rw [hji7] at H; exact H) | (simp only [hji7] at H ⊢; exact H)
              have hji7w : (IntKind.i64.wrap (x5_1 + 1)) = ji7 := (i64_w _).trans hji7
              by_cases c8 : 0 ≤ (ji7)
              · rw [if_pos c8] at H
                have c8b0 : decide (0 ≤ (ji7)) = true := decide_eq_true c8
                clear c8
                by_cases c9 : (ji7) < (a0.size : Int)
                · rw [if_pos c9] at H
                  have c9b0 : decide ((ji7) < (a0.size : Int)) = true := decide_eq_true c9
                  clear c9
                  have HC11 := Aside0.mk H
                  clear H
                  have p5 : 0 ≤ (x5_1 : Int) := of_decide_eq_true (by first | (with_reducible assumption) | assumption)
                  have q5 : x5_1 < (a0.size : Int) := of_decide_eq_true (by first | (with_reducible assumption) | assumption)
                  have hx5 := bt_at a0 x5_1
                  replace p5 := eq_true p5
                  replace q5 := eq_true q5
                  have p10 : 0 ≤ ((ji7) : Int) := of_decide_eq_true (by first | (with_reducible assumption) | assumption)
                  have q10 : (ji7) < (a0.size : Int) := of_decide_eq_true (by first | (with_reducible assumption) | assumption)
                  have hx10 := bt_at a0 (ji7)
                  replace p10 := eq_true p10
                  replace q10 := eq_true q10
                  go_upto_if 40 with (fail)
                  go_cut [40] (fun v40 wc => ∃ (kq : Nat) (x40_10 : Bool), v40 = .bool x40_10 ∧ Aside0 (spec_Unquoted.j1 kq a0 x4_1 ji7 (bt a0 (ji7)) (bt a0 (ji7)) x40_10 = some (r1, r2)) ∧ Aside0 (kq ≤ k1) ∧ Aside0 (Kd.R (Kd.int .u8) 5 wc w.heap.size (fun _ => True) u4 x4_1) ∧ Aside0 (Below w.heap.size w wc))
                  case first =>
                    have H := HC11.out
                    clear HC11
                    by_cases c12 : (bt a0 (ji7)) = 117
                    · rw [if_pos c12] at H
                      have c12b0 : ((bt a0 (ji7)) == 117) = true := beq_iff_eq.mpr c12
                      have c12b1 : ((bt a0 (ji7)) != 117) = false := bne_eq_false_iff_eq.mpr c12
                      clear c12
                      (first | rw [c12b0] | (simp only [i64_w, i32_w]; rw [c12b0]) | skip)
                      have H' := Aside0.mk H
                      clear H
                      go_wp2
                      go_meet
                      case rel => exact ⟨_, (((bt a0 (ji7)) == 117)), (by first | rfl | (simp; done) | (simp only [← hji7] <;> (first | rfl | (simp; done) | (simp only [hji7]; simpa using c12b0))) | (simp [*]; done)), H', ⟨by have := HK1.out; first | omega | exact Nat.le_refl _⟩, ⟨by (with_reducible repeat (first | apply Kd.R_alloc | apply Kd.R_drewN | apply Kd.R_drew)); exact HO_4.out⟩, ⟨by repeat (first | (with_reducible first | exact HB.out | apply below_alloc | apply pw_below_drewN | apply below_drew1) | exact HB.out)⟩⟩
                    · rw [if_neg c12] at H
                      have c12b0 : ((bt a0 (ji7)) == 117) = false := beq_eq_false_iff_ne.mpr c12
                      have c12b1 : ((bt a0 (ji7)) != 117) = true := bne_iff_ne.mpr c12
                      (first | rw [c12b0] | (simp only [i64_w, i32_w]; rw [c12b0]) | skip)
                      have H' := Aside0.mk H
                      clear H
                      go_wp2
                      go_meet
                      case rel => exact ⟨_, (((bt a0 (ji7)) == 85)), (by first | rfl | (simp; done) | (simp only [← hji7] <;> (first | rfl | simp)) | (simp [*]; done)), H', ⟨by have := HK1.out; first | omega | exact Nat.le_refl _⟩, ⟨by (with_reducible repeat (first | apply Kd.R_alloc | apply Kd.R_drewN | apply Kd.R_drew)); exact HO_4.out⟩, ⟨by repeat (first | (with_reducible first | exact HB.out | apply below_alloc | apply pw_below_drewN | apply below_drew1) | exact HB.out)⟩⟩
                  case rest =>
                    clear HC11
                    try clear c1
                    try clear p1
                    try clear q1
                    try clear hx1
                    try clear c2
                    try clear c2b0
                    try clear p2
                    try clear c3
                    try clear c3b0
                    try clear c4
                    try clear c4b0
                    try clear p5
                    try clear q5
                    try clear hx5
                    try clear c6
                    try clear c6b0
                    try clear c6b1
                    try clear p6
                    try clear c8
                    try clear c8b0
                    try clear c9
                    try clear c9b0
                    try clear p10
                    try clear q10
                    try clear hx10
                    try clear c12
                    try clear c12b0
                    try clear c12b1
                    try clear p10
                    try clear p5
                    try clear q10
                    try clear q5
                    obtain ⟨kq, x40_10, rfl, HA, HJ10, HO_4, HB⟩ := hcut
                    cases kq with
                    | zero => exact absurd HA.out (by simp [spec_Unquoted.j1])
                    | succ kj10 =>
                      have H := HA.out
                      clear HA
                      simp only [spec_Unquoted.j1] at H
                      by_cases c13 : x40_10 = true
                      · subst c13
                        have H1 : (if (bt a0 (ji7)) = 85 then (spec_Unquoted.j2 kj10 a0 x4_1 ji7 0 8) else (spec_Unquoted.j2 kj10 a0 x4_1 ji7 0 4)) = some (r1, r2) := by rw [if_pos rfl] at H; exact H
                        clear H
                        have H := H1
                        clear H1
                        have HC14 := Aside0.mk H
                        clear H
                        go_upto_if 44 with (fail)
                        go_cut [8] (fun v8 wc => ∃ (kq : Nat) (x8_13 : Int), v8 = .int .i64 x8_13 ∧ Aside0 (spec_Unquoted.j2 kq a0 x4_1 ji7 0 x8_13 = some (r1, r2)) ∧ Aside0 (kq ≤ kj10) ∧ Aside0 (Kd.R (Kd.int .u8) 5 wc w.heap.size (fun _ => True) u4 x4_1) ∧ Aside0 (Below w.heap.size w wc))
                        case first =>
                          have H := HC14.out
                          clear HC14
                          by_cases c15 : (bt a0 (ji7)) = 85
                          · rw [if_pos c15] at H
                            have c15b0 : ((bt a0 (ji7)) == 85) = true := beq_iff_eq.mpr c15
                            have c15b1 : ((bt a0 (ji7)) != 85) = false := bne_eq_false_iff_eq.mpr c15
                            clear c15
                            (first | rw [c15b0] | (simp only [i64_w, i32_w]; rw [c15b0]) | skip)
                            have H' := Aside0.mk H
                            clear H
                            go_wp2
                            go_meet
                            case rel => exact ⟨_, (8), (by first | rfl | (simp; done) | (simp [*]; done)), H', ⟨by have := HK1.out; have := HJ10.out; first | omega | exact Nat.le_refl _⟩, ⟨by (with_reducible repeat (first | apply Kd.R_alloc | apply Kd.R_drewN | apply Kd.R_drew)); exact HO_4.out⟩, ⟨by repeat (first | (with_reducible first | exact HB.out | apply below_alloc | apply pw_below_drewN | apply below_drew1) | exact HB.out)⟩⟩
                          · rw [if_neg c15] at H
                            have c15b0 : ((bt a0 (ji7)) == 85) = false := beq_eq_false_iff_ne.mpr c15
                            have c15b1 : ((bt a0 (ji7)) != 85) = true := bne_iff_ne.mpr c15
                            (first | rw [c15b0] | (simp only [i64_w, i32_w]; rw [c15b0]) | skip)
                            have H' := Aside0.mk H
                            clear H
                            go_wp2
                            go_meet
                            case rel => exact ⟨_, (4), (by first | rfl | (simp; done) | (simp [*]; done)), H', ⟨by have := HK1.out; have := HJ10.out; first | omega | exact Nat.le_refl _⟩, ⟨by (with_reducible repeat (first | apply Kd.R_alloc | apply Kd.R_drewN | apply Kd.R_drew)); exact HO_4.out⟩, ⟨by repeat (first | (with_reducible first | exact HB.out | apply below_alloc | apply pw_below_drewN | apply below_drew1) | exact HB.out)⟩⟩
                        case rest =>
                          clear HC14
                          try clear c1
                          try clear p1
                          try clear q1
                          try clear hx1
                          try clear c2
                          try clear c2b0
                          try clear p2
                          try clear c3
                          try clear c3b0
                          try clear c4
                          try clear c4b0
                          try clear p5
                          try clear q5
                          try clear hx5
                          try clear c6
                          try clear c6b0
                          try clear c6b1
                          try clear p6
                          try clear c8
                          try clear c8b0
                          try clear c9
                          try clear c9b0
                          try clear p10
                          try clear q10
                          try clear hx10
                          try clear c12
                          try clear c12b0
                          try clear c12b1
                          try clear c13
                          try clear c15
                          try clear c15b0
                          try clear c15b1
                          try clear p1
                          try clear p10
                          try clear p2
                          try clear p5
                          try clear p6
                          try clear q1
                          try clear q10
                          try clear q5
                          obtain ⟨kq, x8_13, rfl, HA, HJ13, HO_4, HB⟩ := hcut
                          cases kq with
                          | zero => exact absurd HA.out (by simp [spec_Unquoted.j2])
                          | succ kj13 =>
                            have H := HA.out
                            clear HA
                            simp only [spec_Unquoted.j2] at H
                            have H' := Aside0.mk H
                            clear H
                            go_wp2
                            go_loopg [5, 7, 9] kj13 (fun kq v5 v7 v9 w' => ∃ (x5_4 : Int) (x7_4 : Int) (x9_4 : Int), v5 = .int .i64 x5_4 ∧ v7 = .int .i64 x7_4 ∧ v9 = .int .i64 x9_4 ∧ Aside0 (spec_Unquoted.l1 kq a0 x4_1 x5_4 x7_4 x8_13 x9_4 = some (r1, r2)) ∧ Aside0 (kq ≤ kj13) ∧ Aside0 (Kd.R (Kd.int .u8) 5 w' w.heap.size (fun _ => True) u4 x4_1) ∧ Aside0 (Below w.heap.size w w'))
                            case atStart => exact ⟨(ji7), (0), (0), (by first | rfl | (simp; done) | (simp only [← hji7] <;> (first | rfl | simp)) | (simp [*]; done)), (by first | rfl | (simp; done) | (simp [*]; done)), (by first | rfl | (simp; done) | (simp [*]; done)), H', ⟨Nat.le_refl _⟩, ⟨by (with_reducible repeat (first | apply Kd.R_alloc | apply Kd.R_drewN | apply Kd.R_drew)); exact HO_4.out⟩, ⟨by repeat (first | (with_reducible first | exact HB.out | apply below_alloc | apply pw_below_drewN | apply below_drew1) | exact HB.out)⟩⟩
                            case round =>
                              clear H'
                              try clear c1
                              try clear p1
                              try clear q1
                              try clear hx1
                              try clear c2
                              try clear c2b0
                              try clear p2
                              try clear c3
                              try clear c3b0
                              try clear c4
                              try clear c4b0
                              try clear p5
                              try clear q5
                              try clear hx5
                              try clear c6
                              try clear c6b0
                              try clear c6b1
                              try clear p6
                              try clear c8
                              try clear c8b0
                              try clear c9
                              try clear c9b0
                              try clear p10
                              try clear q10
                              try clear hx10
                              try clear c12
                              try clear c12b0
                              try clear c12b1
                              try clear c13
                              try clear c15
                              try clear c15b0
                              try clear c15b1
                              try clear p1
                              try clear p10
                              try clear p2
                              try clear p5
                              try clear p6
                              try clear q1
                              try clear q10
                              try clear q5
                              obtain ⟨x5_4, x7_4, x9_4, rfl, rfl, rfl, HA, HK4, HO_4, HB⟩ := hrel
                              cases gk with
                              | zero => exact absurd HA.out (by simp [spec_Unquoted.l1])
                              | succ k4 =>
                                have H := HA.out
                                clear HA
                                simp only [spec_Unquoted.l1] at H
                                by_cases c16 : x9_4 < x8_13
                                · rw [if_pos c16] at H
                                  have c16b0 : decide (x9_4 < x8_13) = true := decide_eq_true c16
                                  clear c16
                                  by_cases c17 : (wrap64 (x5_4 + 1)) < (wrap64 ((a0.size : Int) - 1))
                                  · rw [if_pos c17] at H
                                    have c17b0 : decide ((wrap64 (x5_4 + 1)) < (wrap64 ((a0.size : Int) - 1))) = true := decide_eq_true c17
                                    clear c17
                                    obtain ⟨ji18, hji18⟩ : ∃ j_ : Int, (wrap64 (x5_4 + 1)) = j_ := ⟨_, rfl⟩
                                    replace H : (if 0 ≤ (ji18) then (if (ji18) < (a0.size : Int) then ((spec_hexDigit.f k4 (bt a0 (ji18))).bind fun bt150 => (if bt150.2 = true then (spec_Unquoted.l1 k4 a0 x4_1 ji18 (Go.bits .or .i64 (wrap64 (x7_4 * 16)) (wrap64 (bt150.1))) x8_13 (wrap64 (x9_4 + 1))) else (some ((⟨#[]⟩ : ByteArray), false)))) else (none)) else (none)) = some (r1, r2) := by first | (rw [hji18] at H; exact H) | (simp only [hji18] at H ⊢; exact H)
                                    (try rw [hji18] at c17b0)
                                    have hji18w : (IntKind.i64.wrap (x5_4 + 1)) = ji18 := (i64_w _).trans hji18
                                    by_cases c19 : 0 ≤ (ji18)
                                    · rw [if_pos c19] at H
                                      have c19b0 : decide (0 ≤ (ji18)) = true := decide_eq_true c19
                                      clear c19
                                      by_cases c20 : (ji18) < (a0.size : Int)
                                      · rw [if_pos c20] at H
                                        have c20b0 : decide ((ji18) < (a0.size : Int)) = true := decide_eq_true c20
                                        clear c20
                                        replace H := Option.bind_eq_some_iff.mp H
                                        obtain ⟨⟨t150, t151⟩, A220, H⟩ := H
                                        replace H : (if t151 = true then (spec_Unquoted.l1 k4 a0 x4_1 ji18 (Go.bits .or .i64 (wrap64 (x7_4 * 16)) (wrap64 (t150))) x8_13 (wrap64 (x9_4 + 1))) else (some ((⟨#[]⟩ : ByteArray), false))) = some (r1, r2) := H
                                        have A22 := Aside0.mk A220
                                        clear A220
                                        by_cases c23 : t151 = true
                                        · subst c23
                                          have H1 : (spec_Unquoted.l1 k4 a0 x4_1 ji18 (Go.bits .or .i64 (wrap64 (x7_4 * 16)) (wrap64 (t150))) x8_13 (wrap64 (x9_4 + 1))) = some (r1, r2) := by rw [if_pos rfl] at H; exact H
                                          clear H
                                          have H := H1
                                          clear H1
                                          have H' := Aside0.mk H
                                          clear H
                                          have p21 : 0 ≤ ((ji18) : Int) := of_decide_eq_true (by first | (with_reducible assumption) | assumption)
                                          have q21 : (ji18) < (a0.size : Int) := of_decide_eq_true (by first | (with_reducible assumption) | assumption)
                                          have hx21 := bt_at a0 (ji18)
                                          replace p21 := eq_true p21
                                          replace q21 := eq_true q21
                                          go_wp2_with (first | ((with_reducible refine gate_callee (f := 12) rfl ?_); refine goesL_ (some 61) rfl rfl Tryd.func12 (by kernel_rfl) rfl #[.int .u8 (bt a0 (ji18))] rfl (by (try simp only [List.map_toArray, List.map_cons, List.map_nil]); first | done | (simp only [hji18]; rfl) | rfl | (simp only [List.length_drop, List.length_take]; rfl)) ?_; (with_reducible refine (spec_hexDigit.calls k4 (bt a0 (ji18)) t150 true _ A22.out).mono ?_); rintro e w' ⟨rfl, ⟨nd, rfl⟩⟩; refine ⟨_, rfl, ?_⟩))
                                          go_roundg k4
                                          case measure => have := HK1.out; have := HJ10.out; have := HJ13.out; have := HK4.out; omega
                                          case rel => exact ⟨(ji18), (Go.bits .or .i64 (wrap64 (x7_4 * 16)) (wrap64 (t150))), (wrap64 (x9_4 + 1)), (by first | rfl | (simp; done) | (simp only [← hji18] <;> (first | rfl | simp)) | (simp [*]; done)), (by first | rfl | (simp; done) | (simp [*]; done)), (by first | rfl | (simp; done) | (simp [*]; done)), H', ⟨by have := HK1.out; have := HJ10.out; have := HJ13.out; have := HK4.out; omega⟩, ⟨by (with_reducible repeat (first | apply Kd.R_alloc | apply Kd.R_drewN | apply Kd.R_drew)); exact HO_4.out⟩, ⟨by repeat (first | (with_reducible first | exact HB.out | apply below_alloc | apply pw_below_drewN | apply below_drew1) | exact HB.out)⟩⟩
                                        · replace c23 := Bool.eq_false_iff.mpr c23
                                          subst c23
                                          have H1 : (some ((⟨#[]⟩ : ByteArray), false)) = some (r1, r2) := by rw [if_neg (show ¬ (false = true) by decide)] at H; exact H
                                          clear H
                                          have H := H1
                                          clear H1
                                          simp only [Option.some.injEq, Prod.mk.injEq] at H
                                          obtain ⟨rfl, rfl⟩ := H
                                          have p21 : 0 ≤ ((ji18) : Int) := of_decide_eq_true (by first | (with_reducible assumption) | assumption)
                                          have q21 : (ji18) < (a0.size : Int) := of_decide_eq_true (by first | (with_reducible assumption) | assumption)
                                          have hx21 := bt_at a0 (ji18)
                                          replace p21 := eq_true p21
                                          replace q21 := eq_true q21
                                          go_wp2_with (first | ((with_reducible refine gate_callee (f := 12) rfl ?_); refine goesL_ (some 61) rfl rfl Tryd.func12 (by kernel_rfl) rfl #[.int .u8 (bt a0 (ji18))] rfl (by (try simp only [List.map_toArray, List.map_cons, List.map_nil]); first | done | (simp only [hji18]; rfl) | rfl | (simp only [List.length_drop, List.length_take]; rfl)) ?_; (with_reducible refine (spec_hexDigit.calls k4 (bt a0 (ji18)) t150 false _ A22.out).mono ?_); rintro e w' ⟨rfl, ⟨nd, rfl⟩⟩; refine ⟨_, rfl, ?_⟩))
                                          go_ret2
                                          exact ⟨by first | rfl | (simp [errW_none, errW_some] <;> rfl) | (simp only [← hji7, ← hji18]; first | rfl | (simp [errW_none, errW_some] <;> rfl)) | (simp [*, errW_none, errW_some] <;> rfl), by repeat (first | (with_reducible first | exact HB.out | apply below_alloc | apply pw_below_drewN | apply below_drew1) | exact HB.out)⟩
                                      · rw [if_neg c20] at H
                                        exact absurd H (by simp)
                                    · rw [if_neg c19] at H
                                      exact absurd H (by simp)
                                  · rw [if_neg c17] at H
                                    have c17b0 : decide ((wrap64 (x5_4 + 1)) < (wrap64 ((a0.size : Int) - 1))) = false := decide_eq_false c17
                                    clear c17
                                    simp only [Option.some.injEq, Prod.mk.injEq] at H
                                    obtain ⟨rfl, rfl⟩ := H
                                    go_wp2
                                    go_ret2
                                    exact ⟨by first | rfl | (simp [errW_none, errW_some] <;> rfl) | (simp only [← hji7]; first | rfl | (simp [errW_none, errW_some] <;> rfl)) | (simp [*, errW_none, errW_some] <;> rfl), by repeat (first | (with_reducible first | exact HB.out | apply below_alloc | apply pw_below_drewN | apply below_drew1) | exact HB.out)⟩
                                · rw [if_neg c16] at H
                                  have c16b0 : decide (x9_4 < x8_13) = false := decide_eq_false c16
                                  clear c16
                                  by_cases c24 : x7_4 > 1114111
                                  · rw [if_pos c24] at H
                                    have c24b0 : decide (1114111 < x7_4) = true := decide_eq_true c24
                                    clear c24
                                    replace H := Option.bind_eq_some_iff.mp H
                                    obtain ⟨t138, A250, H⟩ := H
                                    replace H : (spec_Unquoted.l0 k4 a0 t138 (wrap64 (x5_4 + 1))) = some (r1, r2) := H
                                    have A25 := Aside0.mk A250
                                    clear A250
                                    have H' := Aside0.mk H
                                    clear H
                                    obtain ⟨Ao26, co26, eo26⟩ := Kd.R_slice HO_4.out
                                    subst eo26
                                    go_wp2_with (first | ((with_reducible refine gate_callee (f := 13) rfl ?_); refine goesL_ (some 83) rfl rfl Tryd.func13 (by kernel_rfl) rfl #[.slice Ao26 x4_1.length co26, .int .i64 65533] rfl (by (try simp only [List.map_toArray, List.map_cons, List.map_nil]); first | done | rfl | (simp only [List.length_drop, List.length_take]; rfl)) ?_; (with_reducible refine (spec_appendUTF8.calls k4 (fun k_ => some k_ = (.slice Ao26 x4_1.length co26 : Value).ownBlock) (.slice Ao26 x4_1.length co26) x4_1 65533 t138 w _ ?side1 ?side2 A25.out).mono ?_); (case side1 => repeat (first | (with_reducible first | exact HB.out | apply below_alloc | apply pw_below_drewN | apply below_drew1) | exact HB.out)); (case side2 => exact Kd.R_tight rfl HO_4.out); rintro e w27 ⟨v139, rfl, ho0, hb, hkp⟩; refine ⟨_, rfl, ?_⟩; have n0_ := Aside0.mk (Kd.R_mono (ok' := fun k_ => True) ho0 (fun k_ hk_ => trivial)); have n1_ := Aside0.mk (hb); clear HB; clear HO_4; have HO140 := n0_; have HB := n1_; clear n0_ n1_; (try clear hb); (try clear hkp); (try clear ho0)))
                                    go_roundg k4
                                    case measure => have := HK1.out; have := HJ10.out; have := HJ13.out; have := HK4.out; omega
                                    case rel => exact ⟨(t138), (wrap64 (x5_4 + 1)), (by first | rfl | (simp; done) | (simp [*]; done)), H', ⟨by have := HK1.out; have := HJ10.out; have := HJ13.out; have := HK4.out; omega⟩, ⟨by (with_reducible repeat (first | apply Kd.R_alloc | apply Kd.R_drewN | apply Kd.R_drew)); exact HO140.out⟩, ⟨by repeat (first | (with_reducible first | exact HB.out | apply below_alloc | apply pw_below_drewN | apply below_drew1) | exact HB.out)⟩⟩
                                  · rw [if_neg c24] at H
                                    have c24b0 : decide (1114111 < x7_4) = false := decide_eq_false c24
                                    clear c24
                                    by_cases c28 : 55296 ≤ x7_4
                                    · rw [if_pos c28] at H
                                      have c28b0 : decide (55296 ≤ x7_4) = true := decide_eq_true c28
                                      clear c28
                                      by_cases c29 : x7_4 < 57344
                                      · rw [if_pos c29] at H
                                        have c29b0 : decide (x7_4 < 57344) = true := decide_eq_true c29
                                        clear c29
                                        replace H := Option.bind_eq_some_iff.mp H
                                        obtain ⟨t141, A300, H⟩ := H
                                        replace H : (spec_Unquoted.l0 k4 a0 t141 (wrap64 (x5_4 + 1))) = some (r1, r2) := H
                                        have A30 := Aside0.mk A300
                                        clear A300
                                        have H' := Aside0.mk H
                                        clear H
                                        obtain ⟨Ao31, co31, eo31⟩ := Kd.R_slice HO_4.out
                                        subst eo31
                                        go_wp2_with (first | ((with_reducible refine gate_callee (f := 13) rfl ?_); refine goesL_ (some 83) rfl rfl Tryd.func13 (by kernel_rfl) rfl #[.slice Ao31 x4_1.length co31, .int .i64 65533] rfl (by (try simp only [List.map_toArray, List.map_cons, List.map_nil]); first | done | rfl | (simp only [List.length_drop, List.length_take]; rfl)) ?_; (with_reducible refine (spec_appendUTF8.calls k4 (fun k_ => some k_ = (.slice Ao31 x4_1.length co31 : Value).ownBlock) (.slice Ao31 x4_1.length co31) x4_1 65533 t141 w _ ?side1 ?side2 A30.out).mono ?_); (case side1 => repeat (first | (with_reducible first | exact HB.out | apply below_alloc | apply pw_below_drewN | apply below_drew1) | exact HB.out)); (case side2 => exact Kd.R_tight rfl HO_4.out); rintro e w32 ⟨v142, rfl, ho0, hb, hkp⟩; refine ⟨_, rfl, ?_⟩; have n0_ := Aside0.mk (Kd.R_mono (ok' := fun k_ => True) ho0 (fun k_ hk_ => trivial)); have n1_ := Aside0.mk (hb); clear HB; clear HO_4; have HO143 := n0_; have HB := n1_; clear n0_ n1_; (try clear hb); (try clear hkp); (try clear ho0)))
                                        go_roundg k4
                                        case measure => have := HK1.out; have := HJ10.out; have := HJ13.out; have := HK4.out; omega
                                        case rel => exact ⟨(t141), (wrap64 (x5_4 + 1)), (by first | rfl | (simp; done) | (simp [*]; done)), H', ⟨by have := HK1.out; have := HJ10.out; have := HJ13.out; have := HK4.out; omega⟩, ⟨by (with_reducible repeat (first | apply Kd.R_alloc | apply Kd.R_drewN | apply Kd.R_drew)); exact HO143.out⟩, ⟨by repeat (first | (with_reducible first | exact HB.out | apply below_alloc | apply pw_below_drewN | apply below_drew1) | exact HB.out)⟩⟩
                                      · rw [if_neg c29] at H
                                        have c29b0 : decide (x7_4 < 57344) = false := decide_eq_false c29
                                        clear c29
                                        replace H := Option.bind_eq_some_iff.mp H
                                        obtain ⟨t144, A330, H⟩ := H
                                        replace H : (spec_Unquoted.l0 k4 a0 t144 (wrap64 (x5_4 + 1))) = some (r1, r2) := H
                                        have A33 := Aside0.mk A330
                                        clear A330
                                        have H' := Aside0.mk H
                                        clear H
                                        obtain ⟨Ao34, co34, eo34⟩ := Kd.R_slice HO_4.out
                                        subst eo34
                                        go_wp2_with (first | ((with_reducible refine gate_callee (f := 13) rfl ?_); refine goesL_ (some 83) rfl rfl Tryd.func13 (by kernel_rfl) rfl #[.slice Ao34 x4_1.length co34, .int .i64 x7_4] rfl (by (try simp only [List.map_toArray, List.map_cons, List.map_nil]); first | done | rfl | (simp only [List.length_drop, List.length_take]; rfl)) ?_; (with_reducible refine (spec_appendUTF8.calls k4 (fun k_ => some k_ = (.slice Ao34 x4_1.length co34 : Value).ownBlock) (.slice Ao34 x4_1.length co34) x4_1 x7_4 t144 w _ ?side1 ?side2 A33.out).mono ?_); (case side1 => repeat (first | (with_reducible first | exact HB.out | apply below_alloc | apply pw_below_drewN | apply below_drew1) | exact HB.out)); (case side2 => exact Kd.R_tight rfl HO_4.out); rintro e w35 ⟨v145, rfl, ho0, hb, hkp⟩; refine ⟨_, rfl, ?_⟩; have n0_ := Aside0.mk (Kd.R_mono (ok' := fun k_ => True) ho0 (fun k_ hk_ => trivial)); have n1_ := Aside0.mk (hb); clear HB; clear HO_4; have HO146 := n0_; have HB := n1_; clear n0_ n1_; (try clear hb); (try clear hkp); (try clear ho0)))
                                        go_roundg k4
                                        case measure => have := HK1.out; have := HJ10.out; have := HJ13.out; have := HK4.out; omega
                                        case rel => exact ⟨(t144), (wrap64 (x5_4 + 1)), (by first | rfl | (simp; done) | (simp [*]; done)), H', ⟨by have := HK1.out; have := HJ10.out; have := HJ13.out; have := HK4.out; omega⟩, ⟨by (with_reducible repeat (first | apply Kd.R_alloc | apply Kd.R_drewN | apply Kd.R_drew)); exact HO146.out⟩, ⟨by repeat (first | (with_reducible first | exact HB.out | apply below_alloc | apply pw_below_drewN | apply below_drew1) | exact HB.out)⟩⟩
                                    · rw [if_neg c28] at H
                                      have c28b0 : decide (55296 ≤ x7_4) = false := decide_eq_false c28
                                      clear c28
                                      replace H := Option.bind_eq_some_iff.mp H
                                      obtain ⟨t147, A360, H⟩ := H
                                      replace H : (spec_Unquoted.l0 k4 a0 t147 (wrap64 (x5_4 + 1))) = some (r1, r2) := H
                                      have A36 := Aside0.mk A360
                                      clear A360
                                      have H' := Aside0.mk H
                                      clear H
                                      obtain ⟨Ao37, co37, eo37⟩ := Kd.R_slice HO_4.out
                                      subst eo37
                                      go_wp2_with (first | ((with_reducible refine gate_callee (f := 13) rfl ?_); refine goesL_ (some 83) rfl rfl Tryd.func13 (by kernel_rfl) rfl #[.slice Ao37 x4_1.length co37, .int .i64 x7_4] rfl (by (try simp only [List.map_toArray, List.map_cons, List.map_nil]); first | done | rfl | (simp only [List.length_drop, List.length_take]; rfl)) ?_; (with_reducible refine (spec_appendUTF8.calls k4 (fun k_ => some k_ = (.slice Ao37 x4_1.length co37 : Value).ownBlock) (.slice Ao37 x4_1.length co37) x4_1 x7_4 t147 w _ ?side1 ?side2 A36.out).mono ?_); (case side1 => repeat (first | (with_reducible first | exact HB.out | apply below_alloc | apply pw_below_drewN | apply below_drew1) | exact HB.out)); (case side2 => exact Kd.R_tight rfl HO_4.out); rintro e w38 ⟨v148, rfl, ho0, hb, hkp⟩; refine ⟨_, rfl, ?_⟩; have n0_ := Aside0.mk (Kd.R_mono (ok' := fun k_ => True) ho0 (fun k_ hk_ => trivial)); have n1_ := Aside0.mk (hb); clear HB; clear HO_4; have HO149 := n0_; have HB := n1_; clear n0_ n1_; (try clear hb); (try clear hkp); (try clear ho0)))
                                      go_roundg k4
                                      case measure => have := HK1.out; have := HJ10.out; have := HJ13.out; have := HK4.out; omega
                                      case rel => exact ⟨(t147), (wrap64 (x5_4 + 1)), (by first | rfl | (simp; done) | (simp [*]; done)), H', ⟨by have := HK1.out; have := HJ10.out; have := HJ13.out; have := HK4.out; omega⟩, ⟨by (with_reducible repeat (first | apply Kd.R_alloc | apply Kd.R_drewN | apply Kd.R_drew)); exact HO149.out⟩, ⟨by repeat (first | (with_reducible first | exact HB.out | apply below_alloc | apply pw_below_drewN | apply below_drew1) | exact HB.out)⟩⟩
                      · replace c13 := Bool.eq_false_iff.mpr c13
                        subst c13
                        have H1 : (if (bt a0 (ji7)) = 10 then (spec_Unquoted.l0 kj10 a0 x4_1 (wrap64 (ji7 + 1))) else ((spec_escapedAs.f kj10 (bt a0 (ji7))).bind fun t152 => (if x4_1.length < 140737488355328 then (spec_Unquoted.l0 kj10 a0 (x4_1 ++ [t152]) (wrap64 (ji7 + 1))) else (none)))) = some (r1, r2) := by rw [if_neg (show ¬ (false = true) by decide)] at H; exact H
                        clear H
                        have H := H1
                        clear H1
                        by_cases c39 : (bt a0 (ji7)) = 10
                        · rw [if_pos c39] at H
                          have c39b0 : ((bt a0 (ji7)) == 10) = true := beq_iff_eq.mpr c39
                          have c39b1 : ((bt a0 (ji7)) != 10) = false := bne_eq_false_iff_eq.mpr c39
                          clear c39
                          have H' := Aside0.mk H
                          clear H
                          go_wp2
                          go_roundg kj10
                          case measure => have := HK1.out; have := HJ10.out; omega
                          case rel => exact ⟨(x4_1), (wrap64 (ji7 + 1)), (by first | rfl | (simp; done) | (simp only [← hji7] <;> (first | rfl | simp)) | (simp [*]; done)), H', ⟨by have := HK1.out; have := HJ10.out; omega⟩, ⟨by (with_reducible repeat (first | apply Kd.R_alloc | apply Kd.R_drewN | apply Kd.R_drew)); exact HO_4.out⟩, ⟨by repeat (first | (with_reducible first | exact HB.out | apply below_alloc | apply pw_below_drewN | apply below_drew1) | exact HB.out)⟩⟩
                        · rw [if_neg c39] at H
                          have c39b0 : ((bt a0 (ji7)) == 10) = false := beq_eq_false_iff_ne.mpr c39
                          have c39b1 : ((bt a0 (ji7)) != 10) = true := bne_iff_ne.mpr c39
                          replace H := Option.bind_eq_some_iff.mp H
                          obtain ⟨t152, A400, H⟩ := H
                          replace H : (if x4_1.length < 140737488355328 then (spec_Unquoted.l0 kj10 a0 (x4_1 ++ [t152]) (wrap64 (ji7 + 1))) else (none)) = some (r1, r2) := H
                          have A40 := Aside0.mk A400
                          clear A400
                          by_cases c41 : x4_1.length < 140737488355328
                          · rw [if_pos c41] at H
                            have LMc41 := Aside0.mk c41
                            clear c41
                            obtain ⟨y153, hy153⟩ : ∃ y_ : List Int, y_ = (x4_1 ++ [t152]) := ⟨_, rfl⟩
                            replace H : (spec_Unquoted.l0 kj10 a0 y153 (wrap64 (ji7 + 1))) = some (r1, r2) := by first | (rw [hy153]; with_reducible exact H) | (have H2_ := (Option.bind_some _ _).symm.trans H; rw [hy153]; with_reducible exact H2_) | (have H2_ := (Option.bind_some _ _).symm.trans H; with_reducible exact H2_) | with_reducible exact H | (rw [hy153]; exact H) | exact H
                            have Ny153 := Aside0.mk hy153
                            clear hy153
                            have H' := Aside0.mk H
                            clear H
                            go_wp2_with (first | ((with_reducible refine gate_callee (f := 14) rfl ?_); refine goesL_ (some 37) rfl rfl Tryd.func14 (by kernel_rfl) rfl #[.int .u8 (bt a0 (ji7))] rfl (by (try simp only [List.map_toArray, List.map_cons, List.map_nil]); first | done | (simp only [hji7]; rfl) | rfl | (simp only [List.length_drop, List.length_take]; rfl)) ?_; (with_reducible refine (spec_escapedAs.calls kj10 (bt a0 (ji7)) t152 _ A40.out).mono ?_); rintro e w' ⟨rfl, ⟨nd, rfl⟩⟩; refine ⟨_, rfl, ?_⟩) | ((with_reducible refine gate_builtin (b := .append) (xs := #[.tmp 35, .tmp 38]) rfl ?_); at_builtin; refine Kd.R_append (Kd.int .u8) (w0 := w) w.heap.size rfl (.tmp 35) (.tmp 38) 31 5 (.int .u8 0) 1 rfl Tryd.underlying31 info5 rfl (by decide) (by omega) u4 x4_1 t152 [.int .u8 t152] (fun _ => True) (fun _ => False) rfl rfl ?aP (fun _ hk => hk.elim) ?aF ?aO ?aB ?aS ?aL ?_; (case aP => exact rfl); (case aB => exact (by repeat (first | (with_reducible first | exact HB.out | apply below_alloc | apply pw_below_drewN | apply below_drew1) | exact HB.out))); (case aF => exact (fun _ _ => trivial)); (case aO => exact (by (with_reducible repeat (first | apply Kd.R_alloc | apply Kd.R_drewN | apply Kd.R_drew)); exact HO_4.out)); (case aS => exact (below_size (by repeat (first | (with_reducible first | exact HB.out | apply below_alloc | apply pw_below_drewN | apply below_drew1) | exact HB.out)))); (case aL => have := LMc41.out; omega); intro v154 w42 ho hb hg hat; rw [← Ny153.out] at ho; have n0_ := Aside0.mk (hb); have n1_ := Aside0.mk (ho); clear HB; clear HO_4; have HB := n0_; have HO155 := n1_; clear n0_ n1_; clear ho hb hg hat))
                            go_roundg kj10
                            case measure => have := HK1.out; have := HJ10.out; omega
                            case rel => exact ⟨(y153), (wrap64 (ji7 + 1)), (by first | rfl | (simp; done) | (simp only [← hji7] <;> (first | rfl | simp)) | (simp [*]; done)), H', ⟨by have := HK1.out; have := HJ10.out; omega⟩, ⟨by (with_reducible repeat (first | apply Kd.R_alloc | apply Kd.R_drewN | apply Kd.R_drew)); exact HO155.out⟩, ⟨by repeat (first | (with_reducible first | exact HB.out | apply below_alloc | apply pw_below_drewN | apply below_drew1) | exact HB.out)⟩⟩
                          · rw [if_neg c41] at H
                            exact absurd H (by simp)
                · rw [if_neg c9] at H
                  exact absurd H (by simp)
              · rw [if_neg c8] at H
                exact absurd H (by simp)
            · rw [if_neg c6] at H
              have c6b0 : ((bt a0 x5_1) == 92) = false := beq_eq_false_iff_ne.mpr c6
              have c6b1 : ((bt a0 x5_1) != 92) = true := bne_iff_ne.mpr c6
              by_cases c44 : x4_1.length < 140737488355328
              · rw [if_pos c44] at H
                have LMc44 := Aside0.mk c44
                clear c44
                obtain ⟨y135, hy135⟩ : ∃ y_ : List Int, y_ = (x4_1 ++ [bt a0 x5_1]) := ⟨_, rfl⟩
                replace H : (spec_Unquoted.l0 k1 a0 y135 (wrap64 (x5_1 + 1))) = some (r1, r2) := by first | (rw [hy135]; with_reducible exact H) | (have H2_ := (Option.bind_some _ _).symm.trans H; rw [hy135]; with_reducible exact H2_) | (have H2_ := (Option.bind_some _ _).symm.trans H; with_reducible exact H2_) | with_reducible exact H | (rw [hy135]; exact H) | exact H
                have Ny135 := Aside0.mk hy135
                clear hy135
                have H' := Aside0.mk H
                clear H
                have p5 : 0 ≤ (x5_1 : Int) := of_decide_eq_true (by first | (with_reducible assumption) | assumption)
                have q5 : x5_1 < (a0.size : Int) := of_decide_eq_true (by first | (with_reducible assumption) | assumption)
                have hx5 := bt_at a0 x5_1
                replace p5 := eq_true p5
                replace q5 := eq_true q5
                have p43 : 0 ≤ (x5_1 : Int) := of_decide_eq_true (by first | (with_reducible assumption) | assumption)
                have q43 : x5_1 < (a0.size : Int) := of_decide_eq_true (by first | (with_reducible assumption) | assumption)
                have hx43 := bt_at a0 x5_1
                replace p43 := eq_true p43
                replace q43 := eq_true q43
                go_wp2_with (first | ((with_reducible refine gate_builtin (b := .append) (xs := #[.tmp 23, .tmp 27]) rfl ?_); at_builtin; refine Kd.R_append (Kd.int .u8) (w0 := w) w.heap.size rfl (.tmp 23) (.tmp 27) 31 5 (.int .u8 0) 1 rfl Tryd.underlying31 info5 rfl (by decide) (by omega) u4 x4_1 (bt a0 x5_1) [.int .u8 (bt a0 x5_1)] (fun _ => True) (fun _ => False) rfl rfl ?aP (fun _ hk => hk.elim) ?aF ?aO ?aB ?aS ?aL ?_; (case aP => exact rfl); (case aB => exact (by repeat (first | (with_reducible first | exact HB.out | apply below_alloc | apply pw_below_drewN | apply below_drew1) | exact HB.out))); (case aF => exact (fun _ _ => trivial)); (case aO => exact (by (with_reducible repeat (first | apply Kd.R_alloc | apply Kd.R_drewN | apply Kd.R_drew)); exact HO_4.out)); (case aS => exact (below_size (by repeat (first | (with_reducible first | exact HB.out | apply below_alloc | apply pw_below_drewN | apply below_drew1) | exact HB.out)))); (case aL => have := LMc44.out; omega); intro v136 w45 ho hb hg hat; rw [← Ny135.out] at ho; have n0_ := Aside0.mk (hb); have n1_ := Aside0.mk (ho); clear HB; clear HO_4; have HB := n0_; have HO137 := n1_; clear n0_ n1_; clear ho hb hg hat))
                go_roundg k1
                case measure => have := HK1.out; omega
                case rel => exact ⟨(y135), (wrap64 (x5_1 + 1)), (by first | rfl | (simp; done) | (simp [*]; done)), H', ⟨by have := HK1.out; omega⟩, ⟨by (with_reducible repeat (first | apply Kd.R_alloc | apply Kd.R_drewN | apply Kd.R_drew)); exact HO137.out⟩, ⟨by repeat (first | (with_reducible first | exact HB.out | apply below_alloc | apply pw_below_drewN | apply below_drew1) | exact HB.out)⟩⟩
              · rw [if_neg c44] at H
                exact absurd H (by simp)
          · rw [if_neg c4] at H
            exact absurd H (by simp)
        · rw [if_neg c3] at H
          exact absurd H (by simp)
      · rw [if_neg c2] at H
        have c2b0 : decide (x5_1 < (wrap64 ((a0.size : Int) - 1))) = false := decide_eq_false c2
        clear c2
        simp only [Option.some.injEq, Prod.mk.injEq] at H
        obtain ⟨rfl, rfl⟩ := H
        have hcv46 := own_string (P := Tryd.prog) Tryd.underlying31 Tryd.underlying5 Tryd.underlying9 (Kd.own_of_R HO_4.out)
        go_wp2
        go_ret2
        exact ⟨by first | rfl | (simp [errW_none, errW_some] <;> rfl) | (simp [*, errW_none, errW_some] <;> rfl), by repeat (first | (with_reducible first | exact HB.out | apply below_alloc | apply pw_below_drewN | apply below_drew1) | exact HB.out)⟩

-- BY HAND: function 9 (impl_VtUnquote), in Derived.Test.YthhehbocbhhbbaaDoorVs

/-! ### laws_FnVtUnquote: function 3 -/
def laws_FnVtUnquote.j0 : Nat → ByteArray → Bool → Option (Bool)
  | 0, _, _ => none
  | k + 1, x5, x33 => if x33 = true then (some true) else ((spec_Unquoted.f k x5).bind fun bt159 => ((impl_VtUnquote.f x5).bind fun bt161 => ((impl_VtUnquote.f (⟨#[39, 97, 39]⟩ : ByteArray)).bind fun bt163 => (if (bt161.2 == bt159.2) = true then (if bt161.2 = true then (if bt161.1.toList = bt159.1.toList then (some bt163.2) else (some false)) else (some bt163.2)) else (some false)))))
def laws_FnVtUnquote.f (k : Nat) (a0 : ByteArray) (a1 : Bool) : Option (Bool) := if (a0.size : Int) > 2147483647 then (some true) else ((laws_vtInside.f k a0 a1).bind fun bt156 => (if bt156.2 = true then (if (bt156.1.size : Int) > 4096 then (laws_FnVtUnquote.j0 k bt156.1 true) else ((spec_UTF8.f k a0).bind fun t158 => (laws_FnVtUnquote.j0 k bt156.1 (!t158)))) else (laws_FnVtUnquote.j0 k bt156.1 true)))
theorem laws_FnVtUnquote.mono_l : ∀ k, (∀ y0 y1, LeO (laws_FnVtUnquote.j0 k y0 y1) (laws_FnVtUnquote.j0 (k + 1) y0 y1))
  | 0 => fun _ _ r h => by simp [laws_FnVtUnquote.j0] at h
  | k + 1 => by
    have ih0 := laws_FnVtUnquote.mono_l k
    · intro y0 y1
      unfold laws_FnVtUnquote.j0
      repeat' first
      | (with_reducible exact ih0 _ _)
      | (with_reducible exact laws_vtInside.mono _ _ _)
      | (with_reducible exact spec_UTF8.mono _ _)
      | (with_reducible exact spec_Unquoted.mono _ _)
      | (with_reducible exact LeO.refl _)
      | (with_reducible exact LeO.none _)
      | (with_reducible refine LeO.ite ?_ ?_)
      | (with_reducible refine LeO.bind ?_ (fun _ => ?_))
      | exact ih0 _ _
      | exact laws_vtInside.mono _ _ _
      | exact spec_UTF8.mono _ _
      | exact spec_Unquoted.mono _ _
      | exact LeO.none _
      | refine LeO.ite ?_ ?_
      | refine LeO.bind ?_ (fun _ => ?_)
theorem laws_FnVtUnquote.mono : ∀ a0 a1 k, LeO (laws_FnVtUnquote.f k a0 a1) (laws_FnVtUnquote.f (k + 1) a0 a1) := by
  intro a0 a1 k
  have ih0 := laws_FnVtUnquote.mono_l k
  unfold laws_FnVtUnquote.f
  repeat' first
      | (with_reducible exact ih0 _ _)
      | (with_reducible exact laws_vtInside.mono _ _ _)
      | (with_reducible exact spec_UTF8.mono _ _)
      | (with_reducible exact spec_Unquoted.mono _ _)
      | (with_reducible exact LeO.refl _)
      | (with_reducible exact LeO.none _)
      | (with_reducible refine LeO.ite ?_ ?_)
      | (with_reducible refine LeO.bind ?_ (fun _ => ?_))
      | exact ih0 _ _
      | exact laws_vtInside.mono _ _ _
      | exact spec_UTF8.mono _ _
      | exact spec_Unquoted.mono _ _
      | exact LeO.none _
      | refine LeO.ite ?_ ?_
      | refine LeO.bind ?_ (fun _ => ?_)
set_option maxHeartbeats 8000000 in
set_option maxRecDepth 100000 in
theorem laws_FnVtUnquote.calls (k : Nat) (a0 : ByteArray) (a1 : Bool) (r : Bool) (w : World) (HT0 : Vp.Tabs w) (h : laws_FnVtUnquote.f k a0 a1 = some r) :
    Calls Tryd.prog 3 #[.string a0, .bool a1] w fun e w' => e = .returned (.bool r) ∧ Below w.heap.size w w' := by
  have HT := Aside0.mk HT0
  have HT9 := Aside0.mk HT0.lt
  clear HT0
  have HB := Aside0.mk (Below.refl w.heap.size w)
  have H : (if (a0.size : Int) > 2147483647 then (some true) else ((laws_vtInside.f k a0 a1).bind fun bt156 => (if bt156.2 = true then (if (bt156.1.size : Int) > 4096 then (laws_FnVtUnquote.j0 k bt156.1 true) else ((spec_UTF8.f k a0).bind fun t158 => (laws_FnVtUnquote.j0 k bt156.1 (!t158)))) else (laws_FnVtUnquote.j0 k bt156.1 true)))) = some r := h
  clear h
  by_cases c3 : (a0.size : Int) > 2147483647
  · rw [if_pos c3] at H
    have c3b0 : decide (2147483647 < (a0.size : Int)) = true := decide_eq_true c3
    have c3b1 : decide (2147483647 < a0.size) = true := decide_eq_true (by omega)
    clear c3
    obtain rfl := Option.some.inj H
    go_enter Tryd.func3, Tryd.ntmps3
    go_wp2
    go_ret
    exact ⟨by first | rfl | (simp [errW_none, errW_some] <;> rfl) | (simp [*, errW_none, errW_some] <;> rfl), by repeat (first | (with_reducible first | exact HB.out | apply below_alloc | apply pw_below_drewN | apply below_drew1) | exact HB.out)⟩
  · rw [if_neg c3] at H
    have c3b0 : decide (2147483647 < (a0.size : Int)) = false := decide_eq_false c3
    have c3b1 : decide (2147483647 < a0.size) = false := decide_eq_false (by omega)
    clear c3
    replace H := Option.bind_eq_some_iff.mp H
    obtain ⟨⟨t156, t157⟩, A40, H⟩ := H
    replace H : (if t157 = true then (if (t156.size : Int) > 4096 then (laws_FnVtUnquote.j0 k t156 true) else ((spec_UTF8.f k a0).bind fun t158 => (laws_FnVtUnquote.j0 k t156 (!t158)))) else (laws_FnVtUnquote.j0 k t156 true)) = some r := H
    have A4 := Aside0.mk A40
    clear A40
    have HC5 := Aside0.mk H
    clear H
    go_enter Tryd.func3, Tryd.ntmps3
    go_upto_region 4 with (first | ((with_reducible refine gate_callee (f := 6) rfl ?_); refine goesL_ (some 19) rfl rfl Tryd.func6 (by kernel_rfl) rfl #[.string a0, .bool a1] rfl (by (try simp only [List.map_toArray, List.map_cons, List.map_nil]); first | done | rfl | (simp only [List.length_drop, List.length_take]; rfl)) ?_; (with_reducible refine (laws_vtInside.calls k a0 a1 t156 t157 _ A4.out).mono ?_); rintro e w' ⟨rfl, ⟨nd, rfl⟩⟩; refine ⟨_, rfl, ?_⟩))
    (try simp only [Act.put, List.setIfInBounds_toArray, List.set_cons_zero, List.set_cons_succ])
    go_cut [33] (fun v33 wc => ∃ (kq : Nat) (x33_4 : Bool), v33 = .bool x33_4 ∧ Aside0 (laws_FnVtUnquote.j0 kq t156 x33_4 = some r) ∧ Aside0 (kq ≤ k) ∧ Aside0 (Below w.heap.size w wc))
    case first =>
      have H := HC5.out
      clear HC5
      by_cases c6 : t157 = true
      · subst c6
        have H1 : (if (t156.size : Int) > 4096 then (laws_FnVtUnquote.j0 k t156 true) else ((spec_UTF8.f k a0).bind fun t158 => (laws_FnVtUnquote.j0 k t156 (!t158)))) = some r := by rw [if_pos rfl] at H; exact H
        clear H
        have H := H1
        clear H1
        by_cases c7 : (t156.size : Int) > 4096
        · rw [if_pos c7] at H
          have c7b0 : decide (4096 < (t156.size : Int)) = true := decide_eq_true c7
          have c7b1 : decide (4096 < t156.size) = true := decide_eq_true (by omega)
          clear c7
          (first | rw [c7b0] | (simp only [i64_w, i32_w]; rw [c7b0]) | skip)
          have H' := Aside0.mk H
          clear H
          go_wp2
          go_meet
          case rel => exact ⟨_, (true), (by first | rfl | (simp; done) | (simp [*]; done)), H', ⟨by first | omega | exact Nat.le_refl _⟩, ⟨by repeat (first | (with_reducible first | exact HB.out | apply below_alloc | apply pw_below_drewN | apply below_drew1) | exact HB.out)⟩⟩
        · rw [if_neg c7] at H
          have c7b0 : decide (4096 < (t156.size : Int)) = false := decide_eq_false c7
          have c7b1 : decide (4096 < t156.size) = false := decide_eq_false (by omega)
          clear c7
          (first | rw [c7b0] | (simp only [i64_w, i32_w]; rw [c7b0]) | skip)
          replace H := Option.bind_eq_some_iff.mp H
          obtain ⟨t158, A80, H⟩ := H
          replace H : (laws_FnVtUnquote.j0 k t156 (!t158)) = some r := H
          have A8 := Aside0.mk A80
          clear A80
          have H' := Aside0.mk H
          clear H
          go_wp2_with (first | (go_at_call 7; (with_reducible refine (spec_UTF8.calls k a0 t158 _ A8.out).mono ?_); rintro e w' ⟨rfl, ⟨nd, rfl⟩⟩))
          go_meet
          case rel => exact ⟨_, (!t158), (by first | rfl | (simp; done) | (simp [*]; done)), H', ⟨by first | omega | exact Nat.le_refl _⟩, ⟨by repeat (first | (with_reducible first | exact HB.out | apply below_alloc | apply pw_below_drewN | apply below_drew1) | exact HB.out)⟩⟩
      · replace c6 := Bool.eq_false_iff.mpr c6
        subst c6
        have H1 : (laws_FnVtUnquote.j0 k t156 true) = some r := by rw [if_neg (show ¬ (false = true) by decide)] at H; exact H
        clear H
        have H := H1
        clear H1
        have H' := Aside0.mk H
        clear H
        go_wp2
        go_meet
        case rel => exact ⟨_, (true), (by first | rfl | (simp; done) | (simp [*]; done)), H', ⟨by first | omega | exact Nat.le_refl _⟩, ⟨by repeat (first | (with_reducible first | exact HB.out | apply below_alloc | apply pw_below_drewN | apply below_drew1) | exact HB.out)⟩⟩
    case rest =>
      clear HC5
      try clear p2
      try clear c3
      try clear c3b0
      try clear c3b1
      try clear c6
      try clear c7
      try clear c7b0
      try clear c7b1
      obtain ⟨kq, x33_4, rfl, HA, HJ4, HB⟩ := hcut
      cases kq with
      | zero => exact absurd HA.out (by simp [laws_FnVtUnquote.j0])
      | succ kj4 =>
        have H := HA.out
        clear HA
        simp only [laws_FnVtUnquote.j0] at H
        by_cases c9 : x33_4 = true
        · subst c9
          have H1 : (some true) = some r := by rw [if_pos rfl] at H; exact H
          clear H
          have H := H1
          clear H1
          obtain rfl := Option.some.inj H
          go_wp2
          go_ret
          exact ⟨by first | rfl | (simp [errW_none, errW_some] <;> rfl) | (simp [*, errW_none, errW_some] <;> rfl), by repeat (first | (with_reducible first | exact HB.out | apply below_alloc | apply pw_below_drewN | apply below_drew1) | exact HB.out)⟩
        · replace c9 := Bool.eq_false_iff.mpr c9
          subst c9
          have H1 : ((spec_Unquoted.f kj4 t156).bind fun bt159 => ((impl_VtUnquote.f t156).bind fun bt161 => ((impl_VtUnquote.f (⟨#[39, 97, 39]⟩ : ByteArray)).bind fun bt163 => (if (bt161.2 == bt159.2) = true then (if bt161.2 = true then (if bt161.1.toList = bt159.1.toList then (some bt163.2) else (some false)) else (some bt163.2)) else (some false))))) = some r := by rw [if_neg (show ¬ (false = true) by decide)] at H; exact H
          clear H
          have H := H1
          clear H1
          replace H := Option.bind_eq_some_iff.mp H
          obtain ⟨⟨t159, t160⟩, A100, H⟩ := H
          replace H : ((impl_VtUnquote.f t156).bind fun bt161 => ((impl_VtUnquote.f (⟨#[39, 97, 39]⟩ : ByteArray)).bind fun bt163 => (if (bt161.2 == t160) = true then (if bt161.2 = true then (if bt161.1.toList = t159.toList then (some bt163.2) else (some false)) else (some bt163.2)) else (some false)))) = some r := H
          have A10 := Aside0.mk A100
          clear A100
          replace H := Option.bind_eq_some_iff.mp H
          obtain ⟨⟨t161, t162⟩, A110, H⟩ := H
          replace H : ((impl_VtUnquote.f (⟨#[39, 97, 39]⟩ : ByteArray)).bind fun bt163 => (if (t162 == t160) = true then (if t162 = true then (if t161.toList = t159.toList then (some bt163.2) else (some false)) else (some bt163.2)) else (some false))) = some r := H
          have A11 := Aside0.mk A110
          clear A110
          replace H := Option.bind_eq_some_iff.mp H
          obtain ⟨⟨t163, t164⟩, A120, H⟩ := H
          replace H : (if (t162 == t160) = true then (if t162 = true then (if t161.toList = t159.toList then (some t164) else (some false)) else (some t164)) else (some false)) = some r := H
          have A12 := Aside0.mk A120
          clear A120
          by_cases c13 : (t162 == t160) = true
          · rw [if_pos c13] at H
            have c13b0 : (t162 == t160) = true := c13
            (try (have c13b1 : decide (t162 = t160) = true := by simpa using c13))
            (try (have c13b2 : (t162 == t160) = true := by simpa using c13))
            clear c13
            by_cases c14 : t162 = true
            · subst c14
              have H1 : (if t161.toList = t159.toList then (some t164) else (some false)) = some r := by rw [if_pos rfl] at H; exact H
              clear H
              have H := H1
              clear H1
              by_cases c15 : t161.toList = t159.toList
              · rw [if_pos c15] at H
                have c15b0 : (t161.toList == t159.toList) = true := beq_iff_eq.mpr c15
                have c15b1 : (t161.toList != t159.toList) = false := bne_eq_false_iff_eq.mpr c15
                clear c15
                obtain rfl := Option.some.inj H
                go_wp2_with (first | ((with_reducible refine gate_callee (f := 8) rfl ?_); refine goesL_ (some 36) rfl rfl Tryd.func8 (by kernel_rfl) rfl #[.string t156] rfl (by (try simp only [List.map_toArray, List.map_cons, List.map_nil]); first | done | rfl | (simp only [List.length_drop, List.length_take]; rfl)) ?_; (with_reducible refine (spec_Unquoted.calls kj4 t156 t159 t160 _ A10.out).mono ?_); rintro e w16 ⟨rfl, hb⟩; refine ⟨_, rfl, ?_⟩; have n0_ := Aside0.mk (below_step (by repeat (first | (with_reducible first | exact HB.out | apply below_alloc | apply pw_below_drewN | apply below_drew1) | exact HB.out)) hb); clear HB; have HB := n0_; clear n0_; (try clear hb); (try clear hb2); (try clear hk); (try clear hi)) | ((with_reducible refine gate_callee (f := 9) rfl ?_); refine goesL_ (some 41) rfl rfl Tryd.func9 (by kernel_rfl) rfl #[.string t156] rfl (by (try simp only [List.map_toArray, List.map_cons, List.map_nil]); first | done | rfl | (simp only [List.length_drop, List.length_take]; rfl)) ?_; (with_reducible refine (impl_VtUnquote.calls t156 t161 true _ (HT.out.below (B := w.heap.size) (by repeat (first | (with_reducible first | exact HB.out | apply below_alloc | apply pw_below_drewN | apply below_drew1) | exact HB.out)) HT9.out) A11.out).mono ?_); rintro e w17 ⟨rfl, hb⟩; refine ⟨_, rfl, ?_⟩; have n0_ := Aside0.mk (below_step (by repeat (first | (with_reducible first | exact HB.out | apply below_alloc | apply pw_below_drewN | apply below_drew1) | exact HB.out)) hb); clear HB; have HB := n0_; clear n0_; (try clear hb); (try clear hb2); (try clear hk); (try clear hi)) | ((with_reducible refine gate_callee (f := 9) rfl ?_); refine goesL_ (some 45) rfl rfl Tryd.func9 (by kernel_rfl) rfl #[.string (⟨#[39, 97, 39]⟩ : ByteArray)] rfl (by (try simp only [List.map_toArray, List.map_cons, List.map_nil]); first | done | rfl | (simp only [List.length_drop, List.length_take]; rfl)) ?_; (with_reducible refine (impl_VtUnquote.calls (⟨#[39, 97, 39]⟩ : ByteArray) t163 t164 _ (HT.out.below (B := w.heap.size) (by repeat (first | (with_reducible first | exact HB.out | apply below_alloc | apply pw_below_drewN | apply below_drew1) | exact HB.out)) HT9.out) A12.out).mono ?_); rintro e w18 ⟨rfl, hb⟩; refine ⟨_, rfl, ?_⟩; have n0_ := Aside0.mk (below_step (by repeat (first | (with_reducible first | exact HB.out | apply below_alloc | apply pw_below_drewN | apply below_drew1) | exact HB.out)) hb); clear HB; have HB := n0_; clear n0_; (try clear hb); (try clear hb2); (try clear hk); (try clear hi)))
                go_ret
                exact ⟨by first | rfl | (simp [errW_none, errW_some] <;> rfl) | (simp [*, errW_none, errW_some] <;> rfl), by repeat (first | (with_reducible first | exact HB.out | apply below_alloc | apply pw_below_drewN | apply below_drew1) | exact HB.out)⟩
              · rw [if_neg c15] at H
                have c15b0 : (t161.toList == t159.toList) = false := beq_eq_false_iff_ne.mpr c15
                have c15b1 : (t161.toList != t159.toList) = true := bne_iff_ne.mpr c15
                obtain rfl := Option.some.inj H
                go_wp2_with (first | ((with_reducible refine gate_callee (f := 8) rfl ?_); refine goesL_ (some 36) rfl rfl Tryd.func8 (by kernel_rfl) rfl #[.string t156] rfl (by (try simp only [List.map_toArray, List.map_cons, List.map_nil]); first | done | rfl | (simp only [List.length_drop, List.length_take]; rfl)) ?_; (with_reducible refine (spec_Unquoted.calls kj4 t156 t159 t160 _ A10.out).mono ?_); rintro e w19 ⟨rfl, hb⟩; refine ⟨_, rfl, ?_⟩; have n0_ := Aside0.mk (below_step (by repeat (first | (with_reducible first | exact HB.out | apply below_alloc | apply pw_below_drewN | apply below_drew1) | exact HB.out)) hb); clear HB; have HB := n0_; clear n0_; (try clear hb); (try clear hb2); (try clear hk); (try clear hi)) | ((with_reducible refine gate_callee (f := 9) rfl ?_); refine goesL_ (some 41) rfl rfl Tryd.func9 (by kernel_rfl) rfl #[.string t156] rfl (by (try simp only [List.map_toArray, List.map_cons, List.map_nil]); first | done | rfl | (simp only [List.length_drop, List.length_take]; rfl)) ?_; (with_reducible refine (impl_VtUnquote.calls t156 t161 true _ (HT.out.below (B := w.heap.size) (by repeat (first | (with_reducible first | exact HB.out | apply below_alloc | apply pw_below_drewN | apply below_drew1) | exact HB.out)) HT9.out) A11.out).mono ?_); rintro e w20 ⟨rfl, hb⟩; refine ⟨_, rfl, ?_⟩; have n0_ := Aside0.mk (below_step (by repeat (first | (with_reducible first | exact HB.out | apply below_alloc | apply pw_below_drewN | apply below_drew1) | exact HB.out)) hb); clear HB; have HB := n0_; clear n0_; (try clear hb); (try clear hb2); (try clear hk); (try clear hi)) | ((with_reducible refine gate_callee (f := 9) rfl ?_); refine goesL_ (some 45) rfl rfl Tryd.func9 (by kernel_rfl) rfl #[.string (⟨#[39, 97, 39]⟩ : ByteArray)] rfl (by (try simp only [List.map_toArray, List.map_cons, List.map_nil]); first | done | rfl | (simp only [List.length_drop, List.length_take]; rfl)) ?_; (with_reducible refine (impl_VtUnquote.calls (⟨#[39, 97, 39]⟩ : ByteArray) t163 t164 _ (HT.out.below (B := w.heap.size) (by repeat (first | (with_reducible first | exact HB.out | apply below_alloc | apply pw_below_drewN | apply below_drew1) | exact HB.out)) HT9.out) A12.out).mono ?_); rintro e w21 ⟨rfl, hb⟩; refine ⟨_, rfl, ?_⟩; have n0_ := Aside0.mk (below_step (by repeat (first | (with_reducible first | exact HB.out | apply below_alloc | apply pw_below_drewN | apply below_drew1) | exact HB.out)) hb); clear HB; have HB := n0_; clear n0_; (try clear hb); (try clear hb2); (try clear hk); (try clear hi)))
                go_ret
                exact ⟨by first | rfl | (simp [errW_none, errW_some] <;> rfl) | (simp [*, errW_none, errW_some] <;> rfl), by repeat (first | (with_reducible first | exact HB.out | apply below_alloc | apply pw_below_drewN | apply below_drew1) | exact HB.out)⟩
            · replace c14 := Bool.eq_false_iff.mpr c14
              subst c14
              have H1 : (some t164) = some r := by rw [if_neg (show ¬ (false = true) by decide)] at H; exact H
              clear H
              have H := H1
              clear H1
              obtain rfl := Option.some.inj H
              go_wp2_with (first | ((with_reducible refine gate_callee (f := 8) rfl ?_); refine goesL_ (some 36) rfl rfl Tryd.func8 (by kernel_rfl) rfl #[.string t156] rfl (by (try simp only [List.map_toArray, List.map_cons, List.map_nil]); first | done | rfl | (simp only [List.length_drop, List.length_take]; rfl)) ?_; (with_reducible refine (spec_Unquoted.calls kj4 t156 t159 t160 _ A10.out).mono ?_); rintro e w22 ⟨rfl, hb⟩; refine ⟨_, rfl, ?_⟩; have n0_ := Aside0.mk (below_step (by repeat (first | (with_reducible first | exact HB.out | apply below_alloc | apply pw_below_drewN | apply below_drew1) | exact HB.out)) hb); clear HB; have HB := n0_; clear n0_; (try clear hb); (try clear hb2); (try clear hk); (try clear hi)) | ((with_reducible refine gate_callee (f := 9) rfl ?_); refine goesL_ (some 41) rfl rfl Tryd.func9 (by kernel_rfl) rfl #[.string t156] rfl (by (try simp only [List.map_toArray, List.map_cons, List.map_nil]); first | done | rfl | (simp only [List.length_drop, List.length_take]; rfl)) ?_; (with_reducible refine (impl_VtUnquote.calls t156 t161 false _ (HT.out.below (B := w.heap.size) (by repeat (first | (with_reducible first | exact HB.out | apply below_alloc | apply pw_below_drewN | apply below_drew1) | exact HB.out)) HT9.out) A11.out).mono ?_); rintro e w23 ⟨rfl, hb⟩; refine ⟨_, rfl, ?_⟩; have n0_ := Aside0.mk (below_step (by repeat (first | (with_reducible first | exact HB.out | apply below_alloc | apply pw_below_drewN | apply below_drew1) | exact HB.out)) hb); clear HB; have HB := n0_; clear n0_; (try clear hb); (try clear hb2); (try clear hk); (try clear hi)) | ((with_reducible refine gate_callee (f := 9) rfl ?_); refine goesL_ (some 45) rfl rfl Tryd.func9 (by kernel_rfl) rfl #[.string (⟨#[39, 97, 39]⟩ : ByteArray)] rfl (by (try simp only [List.map_toArray, List.map_cons, List.map_nil]); first | done | rfl | (simp only [List.length_drop, List.length_take]; rfl)) ?_; (with_reducible refine (impl_VtUnquote.calls (⟨#[39, 97, 39]⟩ : ByteArray) t163 t164 _ (HT.out.below (B := w.heap.size) (by repeat (first | (with_reducible first | exact HB.out | apply below_alloc | apply pw_below_drewN | apply below_drew1) | exact HB.out)) HT9.out) A12.out).mono ?_); rintro e w24 ⟨rfl, hb⟩; refine ⟨_, rfl, ?_⟩; have n0_ := Aside0.mk (below_step (by repeat (first | (with_reducible first | exact HB.out | apply below_alloc | apply pw_below_drewN | apply below_drew1) | exact HB.out)) hb); clear HB; have HB := n0_; clear n0_; (try clear hb); (try clear hb2); (try clear hk); (try clear hi)))
              go_ret
              exact ⟨by first | rfl | (simp [errW_none, errW_some] <;> rfl) | (simp [*, errW_none, errW_some] <;> rfl), by repeat (first | (with_reducible first | exact HB.out | apply below_alloc | apply pw_below_drewN | apply below_drew1) | exact HB.out)⟩
          · rw [if_neg c13] at H
            have c13b0 : (t162 == t160) = false := by simpa using c13
            (try (have c13b1 : decide (t162 = t160) = false := by simpa using c13))
            (try (have c13b2 : (t162 == t160) = false := by simpa using c13))
            (try (have c13b3 : ¬ (t162 = t160) := by simpa using c13))
            clear c13
            obtain rfl := Option.some.inj H
            go_wp2_with (first | ((with_reducible refine gate_callee (f := 8) rfl ?_); refine goesL_ (some 36) rfl rfl Tryd.func8 (by kernel_rfl) rfl #[.string t156] rfl (by (try simp only [List.map_toArray, List.map_cons, List.map_nil]); first | done | rfl | (simp only [List.length_drop, List.length_take]; rfl)) ?_; (with_reducible refine (spec_Unquoted.calls kj4 t156 t159 t160 _ A10.out).mono ?_); rintro e w25 ⟨rfl, hb⟩; refine ⟨_, rfl, ?_⟩; have n0_ := Aside0.mk (below_step (by repeat (first | (with_reducible first | exact HB.out | apply below_alloc | apply pw_below_drewN | apply below_drew1) | exact HB.out)) hb); clear HB; have HB := n0_; clear n0_; (try clear hb); (try clear hb2); (try clear hk); (try clear hi)) | ((with_reducible refine gate_callee (f := 9) rfl ?_); refine goesL_ (some 41) rfl rfl Tryd.func9 (by kernel_rfl) rfl #[.string t156] rfl (by (try simp only [List.map_toArray, List.map_cons, List.map_nil]); first | done | rfl | (simp only [List.length_drop, List.length_take]; rfl)) ?_; (with_reducible refine (impl_VtUnquote.calls t156 t161 t162 _ (HT.out.below (B := w.heap.size) (by repeat (first | (with_reducible first | exact HB.out | apply below_alloc | apply pw_below_drewN | apply below_drew1) | exact HB.out)) HT9.out) A11.out).mono ?_); rintro e w26 ⟨rfl, hb⟩; refine ⟨_, rfl, ?_⟩; have n0_ := Aside0.mk (below_step (by repeat (first | (with_reducible first | exact HB.out | apply below_alloc | apply pw_below_drewN | apply below_drew1) | exact HB.out)) hb); clear HB; have HB := n0_; clear n0_; (try clear hb); (try clear hb2); (try clear hk); (try clear hi)) | ((with_reducible refine gate_callee (f := 9) rfl ?_); refine goesL_ (some 45) rfl rfl Tryd.func9 (by kernel_rfl) rfl #[.string (⟨#[39, 97, 39]⟩ : ByteArray)] rfl (by (try simp only [List.map_toArray, List.map_cons, List.map_nil]); first | done | rfl | (simp only [List.length_drop, List.length_take]; rfl)) ?_; (with_reducible refine (impl_VtUnquote.calls (⟨#[39, 97, 39]⟩ : ByteArray) t163 t164 _ (HT.out.below (B := w.heap.size) (by repeat (first | (with_reducible first | exact HB.out | apply below_alloc | apply pw_below_drewN | apply below_drew1) | exact HB.out)) HT9.out) A12.out).mono ?_); rintro e w27 ⟨rfl, hb⟩; refine ⟨_, rfl, ?_⟩; have n0_ := Aside0.mk (below_step (by repeat (first | (with_reducible first | exact HB.out | apply below_alloc | apply pw_below_drewN | apply below_drew1) | exact HB.out)) hb); clear HB; have HB := n0_; clear n0_; (try clear hb); (try clear hb2); (try clear hk); (try clear hi)))
            go_ret
            exact ⟨by first | rfl | (simp [errW_none, errW_some] <;> rfl) | (simp [*, errW_none, errW_some] <;> rfl), by repeat (first | (with_reducible first | exact HB.out | apply below_alloc | apply pw_below_drewN | apply below_drew1) | exact HB.out)⟩

end Go.Proofs.YthhehbocbhhbbaaDoor.Q
