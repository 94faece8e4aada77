-- Written by a program of this session out of the translation; Lean checks it.
import Derived.Test.YtpndgbiaomglpaaR0
namespace Go.Proofs.Ytpndgbiaomglpaa.R
open Go.RowKit Go.Proofs.Ytpndgbiaomglpaa.Ext Go.Proofs.YtpndgbiaomglpaaW.PrintWords Go.Proofs.YtpndgbiaomglpaaW.PrintLast Go.Proofs.YtpndgbiaomglpaaW.PrintMore
attribute [local go_sem] max2_int min2_int max_two min_two max_three min_three max_four min_four   -- for this text's walks alone
set_option linter.unusedVariables false
set_option linter.unusedSimpArgs false

/-! ### spec_hexDigit: function 22 -/
def spec_hexDigit.j0 : Nat → Int → Bool → Option (Int × Bool)
  | 0, _, _ => none
  | k + 1, x0, x4 => if x4 = true then (some ((x0 - 48) % 256, true)) else (if (Go.bits .or .u8 x0 32) ≥ 97 then (if (Go.bits .or .u8 x0 32) ≤ 102 then (some (((((Go.bits .or .u8 x0 32) - 97) % 256) + 10) % 256, true)) else (some (0, false))) else (some (0, false)))
def spec_hexDigit.f (k : Nat) (a0 : Int) : Option (Int × Bool) := if a0 ≥ 48 then (spec_hexDigit.j0 k a0 (decide (a0 ≤ 57))) else (spec_hexDigit.j0 k a0 false)
theorem spec_hexDigit.mono_l : ∀ k, (∀ y0 y1, LeO (spec_hexDigit.j0 k y0 y1) (spec_hexDigit.j0 (k + 1) y0 y1))
  | 0 => fun _ _ r h => by simp [spec_hexDigit.j0] at h
  | k + 1 => by
    have ih0 := spec_hexDigit.mono_l k
    · intro y0 y1
      unfold spec_hexDigit.j0
      repeat' first
      | (with_reducible exact ih0 _ _)
      | (with_reducible exact LeO.refl _)
      | (with_reducible exact LeO.none _)
      | (with_reducible refine LeO.ite ?_ ?_)
      | (with_reducible refine LeO.bind ?_ (fun _ => ?_))
      | exact ih0 _ _
      | exact LeO.none _
      | refine LeO.ite ?_ ?_
      | refine LeO.bind ?_ (fun _ => ?_)
theorem spec_hexDigit.mono : ∀ a0 k, LeO (spec_hexDigit.f k a0) (spec_hexDigit.f (k + 1) a0) := by
  intro a0 k
  have ih0 := spec_hexDigit.mono_l k
  unfold spec_hexDigit.f
  repeat' first
      | (with_reducible exact ih0 _ _)
      | (with_reducible exact LeO.refl _)
      | (with_reducible exact LeO.none _)
      | (with_reducible refine LeO.ite ?_ ?_)
      | (with_reducible refine LeO.bind ?_ (fun _ => ?_))
      | exact ih0 _ _
      | exact LeO.none _
      | refine LeO.ite ?_ ?_
      | refine LeO.bind ?_ (fun _ => ?_)
set_option maxHeartbeats 8000000 in
set_option maxRecDepth 100000 in
theorem spec_hexDigit.calls (k : Nat) (a0 : Int) (r1 : Int) (r2 : Bool) (w : World) (h : spec_hexDigit.f k a0 = some (r1, r2)) :
    Calls Try.prog 22 #[.int .u8 a0] w fun e w' => e = .returned (.tuple #[.int .u8 r1, .bool r2]) ∧ Drawn0 w w' := by
  have H : (if a0 ≥ 48 then (spec_hexDigit.j0 k a0 (decide (a0 ≤ 57))) else (spec_hexDigit.j0 k a0 false)) = some (r1, r2) := h
  clear h
  have HC2 := Aside0.mk H
  clear H
  go_enter Try.func22, Try.ntmps22
  go_upto_region 1 with (fail)
  go_cut [4] (fun v4 wc => ∃ (kq : Nat) (x4_1 : Bool), v4 = .bool x4_1 ∧ Aside0 (spec_hexDigit.j0 kq a0 x4_1 = some (r1, r2)) ∧ Aside0 (kq ≤ k) ∧ Drawn0 w wc)
  case first =>
    have H := HC2.out
    clear HC2
    by_cases c3 : a0 ≥ 48
    · rw [if_pos c3] at H
      have c3b0 : decide (48 ≤ a0) = true := decide_eq_true c3
      clear c3
      (first | rw [c3b0] | (simp only [i64_w, i32_w]; rw [c3b0]) | skip)
      have H' := Aside0.mk H
      clear H
      go_wp2
      go_meet
      case rel => exact ⟨_, (decide (a0 ≤ 57)), (by first | rfl | (simp; done) | (simp [*]; done)), H', ⟨by first | omega | exact Nat.le_refl _⟩, by repeat (first | exact Drawn0.refl _ | apply Drawn0.step)⟩
    · rw [if_neg c3] at H
      have c3b0 : decide (48 ≤ a0) = false := decide_eq_false c3
      clear c3
      (first | rw [c3b0] | (simp only [i64_w, i32_w]; rw [c3b0]) | skip)
      have H' := Aside0.mk H
      clear H
      go_wp2
      go_meet
      case rel => exact ⟨_, (false), (by first | rfl | (simp; done) | (simp [*]; done)), H', ⟨by first | omega | exact Nat.le_refl _⟩, by repeat (first | exact Drawn0.refl _ | apply Drawn0.step)⟩
  case rest =>
    clear HC2
    try clear c2
    try clear p2
    try clear c3
    try clear c3b0
    obtain ⟨kq, x4_1, rfl, HA, HJ1, ⟨mc1, rfl⟩⟩ := hcut
    cases kq with
    | zero => exact absurd HA.out (by simp [spec_hexDigit.j0])
    | succ kj1 =>
      have H := HA.out
      clear HA
      simp only [spec_hexDigit.j0] at H
      by_cases c4 : x4_1 = true
      · subst c4
        have H1 : (some ((a0 - 48) % 256, true)) = some (r1, r2) := by rw [if_pos rfl] at H; exact H
        clear H
        have H := H1
        clear H1
        simp only [Option.some.injEq, Prod.mk.injEq] at H
        obtain ⟨rfl, rfl⟩ := H
        go_wp2
        go_ret2
        exact ⟨by first | rfl | (simp; done) | (simp [*]; done), by repeat (first | exact Drawn0.refl _ | apply Drawn0.step)⟩
      · replace c4 := Bool.eq_false_iff.mpr c4
        subst c4
        have H1 : (if (Go.bits .or .u8 a0 32) ≥ 97 then (if (Go.bits .or .u8 a0 32) ≤ 102 then (some (((((Go.bits .or .u8 a0 32) - 97) % 256) + 10) % 256, true)) else (some (0, false))) else (some (0, false))) = some (r1, r2) := by rw [if_neg (show ¬ (false = true) by decide)] at H; exact H
        clear H
        have H := H1
        clear H1
        by_cases c5 : (Go.bits .or .u8 a0 32) ≥ 97
        · rw [if_pos c5] at H
          have c5b0 : decide (97 ≤ (Go.bits .or .u8 a0 32)) = true := decide_eq_true c5
          clear c5
          by_cases c6 : (Go.bits .or .u8 a0 32) ≤ 102
          · rw [if_pos c6] at H
            have c6b0 : decide ((Go.bits .or .u8 a0 32) ≤ 102) = true := decide_eq_true c6
            clear c6
            simp only [Option.some.injEq, Prod.mk.injEq] at H
            obtain ⟨rfl, rfl⟩ := H
            go_wp2
            go_ret2
            exact ⟨by first | rfl | (simp; done) | (simp [*]; done), by repeat (first | exact Drawn0.refl _ | apply Drawn0.step)⟩
          · rw [if_neg c6] at H
            have c6b0 : decide ((Go.bits .or .u8 a0 32) ≤ 102) = false := decide_eq_false c6
            clear c6
            simp only [Option.some.injEq, Prod.mk.injEq] at H
            obtain ⟨rfl, rfl⟩ := H
            go_wp2
            go_ret2
            exact ⟨by first | rfl | (simp; done) | (simp [*]; done), by repeat (first | exact Drawn0.refl _ | apply Drawn0.step)⟩
        · rw [if_neg c5] at H
          have c5b0 : decide (97 ≤ (Go.bits .or .u8 a0 32)) = false := decide_eq_false c5
          clear c5
          simp only [Option.some.injEq, Prod.mk.injEq] at H
          obtain ⟨rfl, rfl⟩ := H
          go_wp2
          go_ret2
          exact ⟨by first | rfl | (simp; done) | (simp [*]; done), by repeat (first | exact Drawn0.refl _ | apply Drawn0.step)⟩

/-! ### spec_UnescapeAddress: function 14 -/
def spec_UnescapeAddress.l0 : Nat → ByteArray → List Int → Int → Option (ByteArray × Bool)
  | 0, _, _, _ => none
  | k + 1, x0, x4, x5 => if x5 < (x0.size : Int) then (if 0 ≤ x5 then (if (bt x0 x5) = 37 then (if (wrap64 ((x0.size : Int) - x5)) < 3 then (some ((⟨#[]⟩ : ByteArray), false)) else (if 0 ≤ (wrap64 (x5 + 1)) then (if (wrap64 (x5 + 1)) < (x0.size : Int) then ((spec_hexDigit.f k (bt x0 (wrap64 (x5 + 1)))).bind fun bt104 => (if 0 ≤ (wrap64 (x5 + 2)) then (if (wrap64 (x5 + 2)) < (x0.size : Int) then ((spec_hexDigit.f k (bt x0 (wrap64 (x5 + 2)))).bind fun bt106 => (if bt104.2 = true then (if bt106.2 = true then (if x4.length < 140737488355328 then (spec_UnescapeAddress.l0 k x0 (x4 ++ [Go.bits .or .u8 ((bt104.1 * 16) % 256) bt106.1]) (wrap64 ((wrap64 (x5 + 2)) + 1))) else (none)) else (some ((⟨#[]⟩ : ByteArray), false))) else (some ((⟨#[]⟩ : ByteArray), false)))) else (none)) else (none))) else (none)) else (none))) else (if x4.length < 140737488355328 then (spec_UnescapeAddress.l0 k x0 (x4 ++ [bt x0 x5]) (wrap64 (x5 + 1))) else (none))) else (none)) else (some (strOfNums x4, true))
def spec_UnescapeAddress.f (k : Nat) (a0 : ByteArray) : Option (ByteArray × Bool) := spec_UnescapeAddress.l0 k a0 ([] : List Int) 0
theorem spec_UnescapeAddress.mono_l : ∀ k, (∀ y0 y1 y2, LeO (spec_UnescapeAddress.l0 k y0 y1 y2) (spec_UnescapeAddress.l0 (k + 1) y0 y1 y2))
  | 0 => fun _ _ _ r h => by simp [spec_UnescapeAddress.l0] at h
  | k + 1 => by
    have ih0 := spec_UnescapeAddress.mono_l k
    · intro y0 y1 y2
      unfold spec_UnescapeAddress.l0
      repeat' first
      | (with_reducible exact ih0 _ _ _)
      | (with_reducible exact spec_hexDigit.mono _ _)
      | (with_reducible exact LeO.refl _)
      | (with_reducible exact LeO.none _)
      | (with_reducible refine LeO.ite ?_ ?_)
      | (with_reducible refine LeO.bind ?_ (fun _ => ?_))
      | exact ih0 _ _ _
      | exact spec_hexDigit.mono _ _
      | exact LeO.none _
      | refine LeO.ite ?_ ?_
      | refine LeO.bind ?_ (fun _ => ?_)
theorem spec_UnescapeAddress.mono : ∀ a0 k, LeO (spec_UnescapeAddress.f k a0) (spec_UnescapeAddress.f (k + 1) a0) := by
  intro a0 k
  have ih0 := spec_UnescapeAddress.mono_l k
  unfold spec_UnescapeAddress.f
  repeat' first
      | (with_reducible exact ih0 _ _ _)
      | (with_reducible exact spec_hexDigit.mono _ _)
      | (with_reducible exact LeO.refl _)
      | (with_reducible exact LeO.none _)
      | (with_reducible refine LeO.ite ?_ ?_)
      | (with_reducible refine LeO.bind ?_ (fun _ => ?_))
      | exact ih0 _ _ _
      | exact spec_hexDigit.mono _ _
      | exact LeO.none _
      | refine LeO.ite ?_ ?_
      | refine LeO.bind ?_ (fun _ => ?_)
set_option maxHeartbeats 8000000 in
set_option maxRecDepth 100000 in
theorem spec_UnescapeAddress.calls (k : Nat) (a0 : ByteArray) (r1 : ByteArray) (r2 : Bool) (w : World) (h : spec_UnescapeAddress.f k a0 = some (r1, r2)) :
    Calls Try.prog 14 #[.string a0] w fun e w' => e = .returned (.tuple #[.string r1, .bool r2]) ∧ Below w.heap.size w w' := by
  have HB := Aside0.mk (Below.refl w.heap.size w)
  have H : (spec_UnescapeAddress.l0 k a0 ([] : List Int) 0) = some (r1, r2) := h
  clear h
  have H' := Aside0.mk H
  clear H
  go_enter Try.func14, Try.ntmps14
  go_wp2
  go_loopg [4, 5] k (fun kq v4 v5 w' => ∃ (x4_1 : List Int) (x5_1 : Int), v5 = .int .i64 x5_1 ∧ Aside0 (spec_UnescapeAddress.l0 kq a0 x4_1 x5_1 = some (r1, r2)) ∧ Aside0 (kq ≤ k) ∧ Aside0 (Kd.R (Kd.int .u8) 5 w' w.heap.size (fun _ => True) v4 x4_1) ∧ Aside0 (Below w.heap.size w w'))
  case atStart => exact ⟨(([] : List Int)), (0), (by first | rfl | (simp; done) | (simp [*]; done)), H', ⟨Nat.le_refl _⟩, ⟨by first | exact Kd.R_nil _ _ _ _ _ | exact Kd.N_nil _ _ _ _ _ | exact Kd.V_nil _ _ _ _ _ | exact Kd.Q_nil _ _ _ _ _ | exact Kd.S_nil _ _ _ _ _⟩, ⟨by repeat (first | (with_reducible first | exact HB.out | apply below_alloc | apply pw_below_drewN | apply below_drew1) | exact HB.out)⟩⟩
  case round =>
    clear H'
    try clear c1
    obtain ⟨x4_1, x5_1, rfl, HA, HK1, HO_4, HB⟩ := hrel
    cases gk with
    | zero => exact absurd HA.out (by simp [spec_UnescapeAddress.l0])
    | succ k1 =>
      have H := HA.out
      clear HA
      simp only [spec_UnescapeAddress.l0] at H
      by_cases c2 : x5_1 < (a0.size : Int)
      · rw [if_pos c2] at H
        have c2b0 : decide (x5_1 < (a0.size : Int)) = true := decide_eq_true c2
        clear c2
        by_cases c3 : 0 ≤ x5_1
        · rw [if_pos c3] at H
          have c3b0 : decide (0 ≤ x5_1) = true := decide_eq_true c3
          clear c3
          by_cases c5 : (bt a0 x5_1) = 37
          · rw [if_pos c5] at H
            have c5b0 : ((bt a0 x5_1) == 37) = true := beq_iff_eq.mpr c5
            have c5b1 : ((bt a0 x5_1) != 37) = false := bne_eq_false_iff_eq.mpr c5
            clear c5
            by_cases c6 : (wrap64 ((a0.size : Int) - x5_1)) < 3
            · rw [if_pos c6] at H
              have c6b0 : decide ((wrap64 ((a0.size : Int) - x5_1)) < 3) = true := decide_eq_true c6
              clear c6
              simp only [Option.some.injEq, Prod.mk.injEq] at H
              obtain ⟨rfl, rfl⟩ := H
              have p4 : 0 ≤ (x5_1 : Int) := of_decide_eq_true (by first | (with_reducible assumption) | assumption)
              have q4 : x5_1 < (a0.size : Int) := of_decide_eq_true (by first | (with_reducible assumption) | assumption)
              have hx4 := bt_at a0 x5_1
              replace p4 := eq_true p4
              replace q4 := eq_true q4
              go_wp2
              go_ret2
              exact ⟨by first | rfl | (simp [errW_none, errW_some] <;> rfl) | (simp [*, errW_none, errW_some] <;> rfl), by repeat (first | (with_reducible first | exact HB.out | apply below_alloc | apply pw_below_drewN | apply below_drew1) | exact HB.out)⟩
            · rw [if_neg c6] at H
              have c6b0 : decide ((wrap64 ((a0.size : Int) - x5_1)) < 3) = false := decide_eq_false c6
              clear c6
              obtain ⟨ji7, hji7⟩ : ∃ j_ : Int, (wrap64 (x5_1 + 1)) = j_ := ⟨_, rfl⟩
              replace H : (if 0 ≤ (ji7) then (if (ji7) < (a0.size : Int) then ((spec_hexDigit.f k1 (bt a0 (ji7))).bind fun bt104 => (if 0 ≤ (wrap64 (x5_1 + 2)) then (if (wrap64 (x5_1 + 2)) < (a0.size : Int) then ((spec_hexDigit.f k1 (bt a0 (wrap64 (x5_1 + 2)))).bind fun bt106 => (if bt104.2 = true then (if bt106.2 = true then (if x4_1.length < 140737488355328 then (spec_UnescapeAddress.l0 k1 a0 (x4_1 ++ [Go.bits .or .u8 ((bt104.1 * 16) % 256) bt106.1]) (wrap64 ((wrap64 (x5_1 + 2)) + 1))) else (none)) else (some ((⟨#[]⟩ : ByteArray), false))) else (some ((⟨#[]⟩ : ByteArray), false)))) else (none)) else (none))) else (none)) else (none)) = some (r1, r2) := by first | (rw [hji7] at H; exact H) | (simp only [hji7] at H ⊢; exact H)
              have hji7w : (IntKind.i64.wrap (x5_1 + 1)) = ji7 := (i64_w _).trans hji7
              by_cases c8 : 0 ≤ (ji7)
              · rw [if_pos c8] at H
                have c8b0 : decide (0 ≤ (ji7)) = true := decide_eq_true c8
                clear c8
                by_cases c9 : (ji7) < (a0.size : Int)
                · rw [if_pos c9] at H
                  have c9b0 : decide ((ji7) < (a0.size : Int)) = true := decide_eq_true c9
                  clear c9
                  replace H := Option.bind_eq_some_iff.mp H
                  obtain ⟨⟨t104, t105⟩, A110, H⟩ := H
                  replace H : (if 0 ≤ (wrap64 (x5_1 + 2)) then (if (wrap64 (x5_1 + 2)) < (a0.size : Int) then ((spec_hexDigit.f k1 (bt a0 (wrap64 (x5_1 + 2)))).bind fun bt106 => (if t105 = true then (if bt106.2 = true then (if x4_1.length < 140737488355328 then (spec_UnescapeAddress.l0 k1 a0 (x4_1 ++ [Go.bits .or .u8 ((t104 * 16) % 256) bt106.1]) (wrap64 ((wrap64 (x5_1 + 2)) + 1))) else (none)) else (some ((⟨#[]⟩ : ByteArray), false))) else (some ((⟨#[]⟩ : ByteArray), false)))) else (none)) else (none)) = some (r1, r2) := H
                  have A11 := Aside0.mk A110
                  clear A110
                  obtain ⟨ji12, hji12⟩ : ∃ j_ : Int, (wrap64 (x5_1 + 2)) = j_ := ⟨_, rfl⟩
                  replace H : (if 0 ≤ (ji12) then (if (ji12) < (a0.size : Int) then ((spec_hexDigit.f k1 (bt a0 (ji12))).bind fun bt106 => (if t105 = true then (if bt106.2 = true then (if x4_1.length < 140737488355328 then (spec_UnescapeAddress.l0 k1 a0 (x4_1 ++ [Go.bits .or .u8 ((t104 * 16) % 256) bt106.1]) (wrap64 ((ji12) + 1))) else (none)) else (some ((⟨#[]⟩ : ByteArray), false))) else (some ((⟨#[]⟩ : ByteArray), false)))) else (none)) else (none)) = some (r1, r2) := by first | (rw [hji12] at H; exact H) | (simp only [hji12] at H ⊢; exact H)
                  (try rw [hji12] at A11)
                  have hji12w : (IntKind.i64.wrap (x5_1 + 2)) = ji12 := (i64_w _).trans hji12
                  by_cases c13 : 0 ≤ (ji12)
                  · rw [if_pos c13] at H
                    have c13b0 : decide (0 ≤ (ji12)) = true := decide_eq_true c13
                    clear c13
                    by_cases c14 : (ji12) < (a0.size : Int)
                    · rw [if_pos c14] at H
                      have c14b0 : decide ((ji12) < (a0.size : Int)) = true := decide_eq_true c14
                      clear c14
                      replace H := Option.bind_eq_some_iff.mp H
                      obtain ⟨⟨t106, t107⟩, A160, H⟩ := H
                      replace H : (if t105 = true then (if t107 = true then (if x4_1.length < 140737488355328 then (spec_UnescapeAddress.l0 k1 a0 (x4_1 ++ [Go.bits .or .u8 ((t104 * 16) % 256) t106]) (wrap64 ((ji12) + 1))) else (none)) else (some ((⟨#[]⟩ : ByteArray), false))) else (some ((⟨#[]⟩ : ByteArray), false))) = some (r1, r2) := H
                      have A16 := Aside0.mk A160
                      clear A160
                      by_cases c17 : t105 = true
                      · subst c17
                        have H1 : (if t107 = true then (if x4_1.length < 140737488355328 then (spec_UnescapeAddress.l0 k1 a0 (x4_1 ++ [Go.bits .or .u8 ((t104 * 16) % 256) t106]) (wrap64 ((ji12) + 1))) else (none)) else (some ((⟨#[]⟩ : ByteArray), false))) = some (r1, r2) := by rw [if_pos rfl] at H; exact H
                        clear H
                        have H := H1
                        clear H1
                        by_cases c18 : t107 = true
                        · subst c18
                          have H1 : (if x4_1.length < 140737488355328 then (spec_UnescapeAddress.l0 k1 a0 (x4_1 ++ [Go.bits .or .u8 ((t104 * 16) % 256) t106]) (wrap64 ((ji12) + 1))) else (none)) = some (r1, r2) := by rw [if_pos rfl] at H; exact H
                          clear H
                          have H := H1
                          clear H1
                          by_cases c19 : x4_1.length < 140737488355328
                          · rw [if_pos c19] at H
                            have LMc19 := Aside0.mk c19
                            clear c19
                            obtain ⟨y108, hy108⟩ : ∃ y_ : List Int, y_ = (x4_1 ++ [Go.bits .or .u8 ((t104 * 16) % 256) t106]) := ⟨_, rfl⟩
                            replace H : (spec_UnescapeAddress.l0 k1 a0 y108 (wrap64 ((ji12) + 1))) = some (r1, r2) := by first | (rw [hy108]; with_reducible exact H) | (have H2_ := (Option.bind_some _ _).symm.trans H; rw [hy108]; with_reducible exact H2_) | (have H2_ := (Option.bind_some _ _).symm.trans H; with_reducible exact H2_) | with_reducible exact H | (rw [hy108]; exact H) | exact H
                            have Ny108 := Aside0.mk hy108
                            clear hy108
                            have H' := Aside0.mk H
                            clear H
                            have p4 : 0 ≤ (x5_1 : Int) := of_decide_eq_true (by first | (with_reducible assumption) | assumption)
                            have q4 : x5_1 < (a0.size : Int) := of_decide_eq_true (by first | (with_reducible assumption) | assumption)
                            have hx4 := bt_at a0 x5_1
                            replace p4 := eq_true p4
                            replace q4 := eq_true q4
                            have p10 : 0 ≤ ((ji7) : Int) := of_decide_eq_true (by first | (with_reducible assumption) | assumption)
                            have q10 : (ji7) < (a0.size : Int) := of_decide_eq_true (by first | (with_reducible assumption) | assumption)
                            have hx10 := bt_at a0 (ji7)
                            replace p10 := eq_true p10
                            replace q10 := eq_true q10
                            go_wp2_with (first | ((with_reducible refine gate_callee (f := 22) rfl ?_); refine goesL_ (some 36) rfl rfl Try.func22 (by kernel_rfl) rfl #[.int .u8 (bt a0 (ji7))] rfl (by (try simp only [List.map_toArray, List.map_cons, List.map_nil]); first | done | (simp only [hji7]; rfl) | rfl | (simp only [List.length_drop, List.length_take]; rfl)) ?_; (with_reducible refine (spec_hexDigit.calls k1 (bt a0 (ji7)) t104 true _ A11.out).mono ?_); rintro e w' ⟨rfl, ⟨nd, rfl⟩⟩; refine ⟨_, rfl, ?_⟩; have p15 : 0 ≤ ((ji12) : Int) := of_decide_eq_true (by first | (with_reducible assumption) | assumption); have q15 : (ji12) < (a0.size : Int) := of_decide_eq_true (by first | (with_reducible assumption) | assumption); have hx15 := bt_at a0 (ji12); replace p15 := eq_true p15; replace q15 := eq_true q15) | ((with_reducible refine gate_callee (f := 22) rfl ?_); refine goesL_ (some 44) rfl rfl Try.func22 (by kernel_rfl) rfl #[.int .u8 (bt a0 (ji12))] rfl (by (try simp only [List.map_toArray, List.map_cons, List.map_nil]); first | done | (simp only [hji12]; rfl) | rfl | (simp only [List.length_drop, List.length_take]; rfl)) ?_; (with_reducible refine (spec_hexDigit.calls k1 (bt a0 (ji12)) t106 true _ A16.out).mono ?_); rintro e w' ⟨rfl, ⟨nd, rfl⟩⟩; refine ⟨_, rfl, ?_⟩) | ((with_reducible refine gate_builtin (b := .append) (xs := #[.tmp 53, .tmp 58]) rfl ?_); at_builtin; refine Kd.R_append (Kd.int .u8) (w0 := w) w.heap.size rfl (.tmp 53) (.tmp 58) 41 5 (.int .u8 0) 1 rfl Try.underlying41 info5 rfl (by decide) (by omega) u4 x4_1 (Go.bits .or .u8 ((t104 * 16) % 256) t106) [.int .u8 (Go.bits .or .u8 ((t104 * 16) % 256) t106)] (fun _ => True) (fun _ => False) rfl rfl ?aP (fun _ hk => hk.elim) ?aF ?aO ?aB ?aS ?aL ?_; (case aP => exact rfl); (case aB => exact (by repeat (first | (with_reducible first | exact HB.out | apply below_alloc | apply pw_below_drewN | apply below_drew1) | exact HB.out))); (case aF => exact (fun _ _ => trivial)); (case aO => exact (by (with_reducible repeat (first | apply Kd.R_alloc | apply Kd.R_drewN | apply Kd.R_drew)); exact HO_4.out)); (case aS => exact (below_size (by repeat (first | (with_reducible first | exact HB.out | apply below_alloc | apply pw_below_drewN | apply below_drew1) | exact HB.out)))); (case aL => have := LMc19.out; omega); intro v109 w20 ho hb hg hat; rw [← Ny108.out] at ho; have n0_ := Aside0.mk (hb); have n1_ := Aside0.mk (ho); clear HB; clear HO_4; have HB := n0_; have HO110 := n1_; clear n0_ n1_; clear ho hb hg hat))
                            go_roundg k1
                            case measure => have := HK1.out; omega
                            case rel => exact ⟨(y108), (wrap64 ((ji12) + 1)), (by first | rfl | (simp; done) | (simp only [← hji12] <;> (first | rfl | simp)) | (simp [*]; done)), H', ⟨by have := HK1.out; omega⟩, ⟨by (with_reducible repeat (first | apply Kd.R_alloc | apply Kd.R_drewN | apply Kd.R_drew)); exact HO110.out⟩, ⟨by repeat (first | (with_reducible first | exact HB.out | apply below_alloc | apply pw_below_drewN | apply below_drew1) | exact HB.out)⟩⟩
                          · rw [if_neg c19] at H
                            exact absurd H (by simp)
                        · replace c18 := Bool.eq_false_iff.mpr c18
                          subst c18
                          have H1 : (some ((⟨#[]⟩ : ByteArray), false)) = some (r1, r2) := by rw [if_neg (show ¬ (false = true) by decide)] at H; exact H
                          clear H
                          have H := H1
                          clear H1
                          simp only [Option.some.injEq, Prod.mk.injEq] at H
                          obtain ⟨rfl, rfl⟩ := H
                          have p4 : 0 ≤ (x5_1 : Int) := of_decide_eq_true (by first | (with_reducible assumption) | assumption)
                          have q4 : x5_1 < (a0.size : Int) := of_decide_eq_true (by first | (with_reducible assumption) | assumption)
                          have hx4 := bt_at a0 x5_1
                          replace p4 := eq_true p4
                          replace q4 := eq_true q4
                          have p10 : 0 ≤ ((ji7) : Int) := of_decide_eq_true (by first | (with_reducible assumption) | assumption)
                          have q10 : (ji7) < (a0.size : Int) := of_decide_eq_true (by first | (with_reducible assumption) | assumption)
                          have hx10 := bt_at a0 (ji7)
                          replace p10 := eq_true p10
                          replace q10 := eq_true q10
                          go_wp2_with (first | ((with_reducible refine gate_callee (f := 22) rfl ?_); refine goesL_ (some 36) rfl rfl Try.func22 (by kernel_rfl) rfl #[.int .u8 (bt a0 (ji7))] rfl (by (try simp only [List.map_toArray, List.map_cons, List.map_nil]); first | done | (simp only [hji7]; rfl) | rfl | (simp only [List.length_drop, List.length_take]; rfl)) ?_; (with_reducible refine (spec_hexDigit.calls k1 (bt a0 (ji7)) t104 true _ A11.out).mono ?_); rintro e w' ⟨rfl, ⟨nd, rfl⟩⟩; refine ⟨_, rfl, ?_⟩; have p15 : 0 ≤ ((ji12) : Int) := of_decide_eq_true (by first | (with_reducible assumption) | assumption); have q15 : (ji12) < (a0.size : Int) := of_decide_eq_true (by first | (with_reducible assumption) | assumption); have hx15 := bt_at a0 (ji12); replace p15 := eq_true p15; replace q15 := eq_true q15) | ((with_reducible refine gate_callee (f := 22) rfl ?_); refine goesL_ (some 44) rfl rfl Try.func22 (by kernel_rfl) rfl #[.int .u8 (bt a0 (ji12))] rfl (by (try simp only [List.map_toArray, List.map_cons, List.map_nil]); first | done | (simp only [hji12]; rfl) | rfl | (simp only [List.length_drop, List.length_take]; rfl)) ?_; (with_reducible refine (spec_hexDigit.calls k1 (bt a0 (ji12)) t106 false _ A16.out).mono ?_); rintro e w' ⟨rfl, ⟨nd, rfl⟩⟩; refine ⟨_, rfl, ?_⟩))
                          go_ret2
                          exact ⟨by first | rfl | (simp [errW_none, errW_some] <;> rfl) | (simp only [← hji7, ← hji12]; first | rfl | (simp [errW_none, errW_some] <;> rfl)) | (simp [*, errW_none, errW_some] <;> rfl), by repeat (first | (with_reducible first | exact HB.out | apply below_alloc | apply pw_below_drewN | apply below_drew1) | exact HB.out)⟩
                      · replace c17 := Bool.eq_false_iff.mpr c17
                        subst c17
                        have H1 : (some ((⟨#[]⟩ : ByteArray), false)) = some (r1, r2) := by rw [if_neg (show ¬ (false = true) by decide)] at H; exact H
                        clear H
                        have H := H1
                        clear H1
                        simp only [Option.some.injEq, Prod.mk.injEq] at H
                        obtain ⟨rfl, rfl⟩ := H
                        have p4 : 0 ≤ (x5_1 : Int) := of_decide_eq_true (by first | (with_reducible assumption) | assumption)
                        have q4 : x5_1 < (a0.size : Int) := of_decide_eq_true (by first | (with_reducible assumption) | assumption)
                        have hx4 := bt_at a0 x5_1
                        replace p4 := eq_true p4
                        replace q4 := eq_true q4
                        have p10 : 0 ≤ ((ji7) : Int) := of_decide_eq_true (by first | (with_reducible assumption) | assumption)
                        have q10 : (ji7) < (a0.size : Int) := of_decide_eq_true (by first | (with_reducible assumption) | assumption)
                        have hx10 := bt_at a0 (ji7)
                        replace p10 := eq_true p10
                        replace q10 := eq_true q10
                        go_wp2_with (first | ((with_reducible refine gate_callee (f := 22) rfl ?_); refine goesL_ (some 36) rfl rfl Try.func22 (by kernel_rfl) rfl #[.int .u8 (bt a0 (ji7))] rfl (by (try simp only [List.map_toArray, List.map_cons, List.map_nil]); first | done | (simp only [hji7]; rfl) | rfl | (simp only [List.length_drop, List.length_take]; rfl)) ?_; (with_reducible refine (spec_hexDigit.calls k1 (bt a0 (ji7)) t104 false _ A11.out).mono ?_); rintro e w' ⟨rfl, ⟨nd, rfl⟩⟩; refine ⟨_, rfl, ?_⟩; have p15 : 0 ≤ ((ji12) : Int) := of_decide_eq_true (by first | (with_reducible assumption) | assumption); have q15 : (ji12) < (a0.size : Int) := of_decide_eq_true (by first | (with_reducible assumption) | assumption); have hx15 := bt_at a0 (ji12); replace p15 := eq_true p15; replace q15 := eq_true q15) | ((with_reducible refine gate_callee (f := 22) rfl ?_); refine goesL_ (some 44) rfl rfl Try.func22 (by kernel_rfl) rfl #[.int .u8 (bt a0 (ji12))] rfl (by (try simp only [List.map_toArray, List.map_cons, List.map_nil]); first | done | (simp only [hji12]; rfl) | rfl | (simp only [List.length_drop, List.length_take]; rfl)) ?_; (with_reducible refine (spec_hexDigit.calls k1 (bt a0 (ji12)) t106 t107 _ A16.out).mono ?_); rintro e w' ⟨rfl, ⟨nd, rfl⟩⟩; refine ⟨_, rfl, ?_⟩))
                        go_ret2
                        exact ⟨by first | rfl | (simp [errW_none, errW_some] <;> rfl) | (simp only [← hji7, ← hji12]; first | rfl | (simp [errW_none, errW_some] <;> rfl)) | (simp [*, errW_none, errW_some] <;> rfl), by repeat (first | (with_reducible first | exact HB.out | apply below_alloc | apply pw_below_drewN | apply below_drew1) | exact HB.out)⟩
                    · rw [if_neg c14] at H
                      exact absurd H (by simp)
                  · rw [if_neg c13] at H
                    exact absurd H (by simp)
                · rw [if_neg c9] at H
                  exact absurd H (by simp)
              · rw [if_neg c8] at H
                exact absurd H (by simp)
          · rw [if_neg c5] at H
            have c5b0 : ((bt a0 x5_1) == 37) = false := beq_eq_false_iff_ne.mpr c5
            have c5b1 : ((bt a0 x5_1) != 37) = true := bne_iff_ne.mpr c5
            by_cases c22 : x4_1.length < 140737488355328
            · rw [if_pos c22] at H
              have LMc22 := Aside0.mk c22
              clear c22
              obtain ⟨y101, hy101⟩ : ∃ y_ : List Int, y_ = (x4_1 ++ [bt a0 x5_1]) := ⟨_, rfl⟩
              replace H : (spec_UnescapeAddress.l0 k1 a0 y101 (wrap64 (x5_1 + 1))) = some (r1, r2) := by first | (rw [hy101]; with_reducible exact H) | (have H2_ := (Option.bind_some _ _).symm.trans H; rw [hy101]; with_reducible exact H2_) | (have H2_ := (Option.bind_some _ _).symm.trans H; with_reducible exact H2_) | with_reducible exact H | (rw [hy101]; exact H) | exact H
              have Ny101 := Aside0.mk hy101
              clear hy101
              have H' := Aside0.mk H
              clear H
              have p4 : 0 ≤ (x5_1 : Int) := of_decide_eq_true (by first | (with_reducible assumption) | assumption)
              have q4 : x5_1 < (a0.size : Int) := of_decide_eq_true (by first | (with_reducible assumption) | assumption)
              have hx4 := bt_at a0 x5_1
              replace p4 := eq_true p4
              replace q4 := eq_true q4
              have p21 : 0 ≤ (x5_1 : Int) := of_decide_eq_true (by first | (with_reducible assumption) | assumption)
              have q21 : x5_1 < (a0.size : Int) := of_decide_eq_true (by first | (with_reducible assumption) | assumption)
              have hx21 := bt_at a0 x5_1
              replace p21 := eq_true p21
              replace q21 := eq_true q21
              go_wp2_with (first | ((with_reducible refine gate_builtin (b := .append) (xs := #[.tmp 20, .tmp 24]) rfl ?_); at_builtin; refine Kd.R_append (Kd.int .u8) (w0 := w) w.heap.size rfl (.tmp 20) (.tmp 24) 41 5 (.int .u8 0) 1 rfl Try.underlying41 info5 rfl (by decide) (by omega) u4 x4_1 (bt a0 x5_1) [.int .u8 (bt a0 x5_1)] (fun _ => True) (fun _ => False) rfl rfl ?aP (fun _ hk => hk.elim) ?aF ?aO ?aB ?aS ?aL ?_; (case aP => exact rfl); (case aB => exact (by repeat (first | (with_reducible first | exact HB.out | apply below_alloc | apply pw_below_drewN | apply below_drew1) | exact HB.out))); (case aF => exact (fun _ _ => trivial)); (case aO => exact (by (with_reducible repeat (first | apply Kd.R_alloc | apply Kd.R_drewN | apply Kd.R_drew)); exact HO_4.out)); (case aS => exact (below_size (by repeat (first | (with_reducible first | exact HB.out | apply below_alloc | apply pw_below_drewN | apply below_drew1) | exact HB.out)))); (case aL => have := LMc22.out; omega); intro v102 w23 ho hb hg hat; rw [← Ny101.out] at ho; have n0_ := Aside0.mk (hb); have n1_ := Aside0.mk (ho); clear HB; clear HO_4; have HB := n0_; have HO103 := n1_; clear n0_ n1_; clear ho hb hg hat))
              go_roundg k1
              case measure => have := HK1.out; omega
              case rel => exact ⟨(y101), (wrap64 (x5_1 + 1)), (by first | rfl | (simp; done) | (simp [*]; done)), H', ⟨by have := HK1.out; omega⟩, ⟨by (with_reducible repeat (first | apply Kd.R_alloc | apply Kd.R_drewN | apply Kd.R_drew)); exact HO103.out⟩, ⟨by repeat (first | (with_reducible first | exact HB.out | apply below_alloc | apply pw_below_drewN | apply below_drew1) | exact HB.out)⟩⟩
            · rw [if_neg c22] at H
              exact absurd H (by simp)
        · rw [if_neg c3] at H
          exact absurd H (by simp)
      · rw [if_neg c2] at H
        have c2b0 : decide (x5_1 < (a0.size : Int)) = false := decide_eq_false c2
        clear c2
        simp only [Option.some.injEq, Prod.mk.injEq] at H
        obtain ⟨rfl, rfl⟩ := H
        have hcv24 := own_string (P := Try.prog) Try.underlying41 Try.underlying5 Try.underlying9 (Kd.own_of_R HO_4.out)
        go_wp2
        go_ret2
        exact ⟨by first | rfl | (simp [errW_none, errW_some] <;> rfl) | (simp [*, errW_none, errW_some] <;> rfl), by repeat (first | (with_reducible first | exact HB.out | apply below_alloc | apply pw_below_drewN | apply below_drew1) | exact HB.out)⟩

-- BY HAND: function 15 (impl_AdUnescape), in Derived.Test.YtpndgbiaomglpaaExt3

/-! ### laws_FnAdUnescape: function 6 -/
def laws_FnAdUnescape.f (k : Nat) (a0 : ByteArray) : Option (Bool) := if (a0.size : Int) > 2147483647 then (some true) else (if (a0.size : Int) > 4096 then (some true) else ((spec_UnescapeAddress.f k a0).bind fun bt111 => ((impl_AdUnescape.f k a0).bind fun bt113 => ((impl_AdUnescape.f k (⟨#[37, 54, 49]⟩ : ByteArray)).bind fun bt115 => (if (bt113.2 == bt111.2) = true then (if bt113.2 = true then (if bt113.1.toList = bt111.1.toList then (if bt115.2 = true then (some (bt115.1.toList == ([97] : List UInt8))) else (some false)) else (some false)) else (if bt115.2 = true then (some (bt115.1.toList == ([97] : List UInt8))) else (some false))) else (some false))))))
theorem laws_FnAdUnescape.mono : ∀ a0 k, LeO (laws_FnAdUnescape.f k a0) (laws_FnAdUnescape.f (k + 1) a0) := by
  intro a0 k
  unfold laws_FnAdUnescape.f
  repeat' first
      | (with_reducible exact impl_AdUnescape.mono _ _)
      | (with_reducible exact spec_UnescapeAddress.mono _ _)
      | (with_reducible exact LeO.refl _)
      | (with_reducible exact LeO.none _)
      | (with_reducible refine LeO.ite ?_ ?_)
      | (with_reducible refine LeO.bind ?_ (fun _ => ?_))
      | exact impl_AdUnescape.mono _ _
      | exact spec_UnescapeAddress.mono _ _
      | exact LeO.none _
      | refine LeO.ite ?_ ?_
      | refine LeO.bind ?_ (fun _ => ?_)
set_option maxHeartbeats 8000000 in
set_option maxRecDepth 100000 in
theorem laws_FnAdUnescape.calls (k : Nat) (a0 : ByteArray) (r : Bool) (w : World) (h : laws_FnAdUnescape.f k a0 = some r) :
    Calls Try.prog 6 #[.string a0] w fun e w' => e = .returned (.bool r) ∧ Below w.heap.size w w' := by
  have HB := Aside0.mk (Below.refl w.heap.size w)
  have H : (if (a0.size : Int) > 2147483647 then (some true) else (if (a0.size : Int) > 4096 then (some true) else ((spec_UnescapeAddress.f k a0).bind fun bt111 => ((impl_AdUnescape.f k a0).bind fun bt113 => ((impl_AdUnescape.f k (⟨#[37, 54, 49]⟩ : ByteArray)).bind fun bt115 => (if (bt113.2 == bt111.2) = true then (if bt113.2 = true then (if bt113.1.toList = bt111.1.toList then (if bt115.2 = true then (some (bt115.1.toList == ([97] : List UInt8))) else (some false)) else (some false)) else (if bt115.2 = true then (some (bt115.1.toList == ([97] : List UInt8))) else (some false))) else (some false))))))) = some r := h
  clear h
  by_cases c2 : (a0.size : Int) > 2147483647
  · rw [if_pos c2] at H
    have c2b0 : decide (2147483647 < (a0.size : Int)) = true := decide_eq_true c2
    have c2b1 : decide (2147483647 < a0.size) = true := decide_eq_true (by omega)
    clear c2
    obtain rfl := Option.some.inj H
    go_enter Try.func6, Try.ntmps6
    go_wp2
    go_ret
    exact ⟨by first | rfl | (simp [errW_none, errW_some] <;> rfl) | (simp [*, errW_none, errW_some] <;> rfl), by repeat (first | (with_reducible first | exact HB.out | apply below_alloc | apply pw_below_drewN | apply below_drew1) | exact HB.out)⟩
  · rw [if_neg c2] at H
    have c2b0 : decide (2147483647 < (a0.size : Int)) = false := decide_eq_false c2
    have c2b1 : decide (2147483647 < a0.size) = false := decide_eq_false (by omega)
    clear c2
    by_cases c3 : (a0.size : Int) > 4096
    · rw [if_pos c3] at H
      have c3b0 : decide (4096 < (a0.size : Int)) = true := decide_eq_true c3
      have c3b1 : decide (4096 < a0.size) = true := decide_eq_true (by omega)
      clear c3
      obtain rfl := Option.some.inj H
      go_enter Try.func6, Try.ntmps6
      go_wp2
      go_ret
      exact ⟨by first | rfl | (simp [errW_none, errW_some] <;> rfl) | (simp [*, errW_none, errW_some] <;> rfl), by repeat (first | (with_reducible first | exact HB.out | apply below_alloc | apply pw_below_drewN | apply below_drew1) | exact HB.out)⟩
    · rw [if_neg c3] at H
      have c3b0 : decide (4096 < (a0.size : Int)) = false := decide_eq_false c3
      have c3b1 : decide (4096 < a0.size) = false := decide_eq_false (by omega)
      clear c3
      replace H := Option.bind_eq_some_iff.mp H
      obtain ⟨⟨t111, t112⟩, A40, H⟩ := H
      replace H : ((impl_AdUnescape.f k a0).bind fun bt113 => ((impl_AdUnescape.f k (⟨#[37, 54, 49]⟩ : ByteArray)).bind fun bt115 => (if (bt113.2 == t112) = true then (if bt113.2 = true then (if bt113.1.toList = t111.toList then (if bt115.2 = true then (some (bt115.1.toList == ([97] : List UInt8))) else (some false)) else (some false)) else (if bt115.2 = true then (some (bt115.1.toList == ([97] : List UInt8))) else (some false))) else (some false)))) = some r := H
      have A4 := Aside0.mk A40
      clear A40
      replace H := Option.bind_eq_some_iff.mp H
      obtain ⟨⟨t113, t114⟩, A50, H⟩ := H
      replace H : ((impl_AdUnescape.f k (⟨#[37, 54, 49]⟩ : ByteArray)).bind fun bt115 => (if (t114 == t112) = true then (if t114 = true then (if t113.toList = t111.toList then (if bt115.2 = true then (some (bt115.1.toList == ([97] : List UInt8))) else (some false)) else (some false)) else (if bt115.2 = true then (some (bt115.1.toList == ([97] : List UInt8))) else (some false))) else (some false))) = some r := H
      have A5 := Aside0.mk A50
      clear A50
      replace H := Option.bind_eq_some_iff.mp H
      obtain ⟨⟨t115, t116⟩, A60, H⟩ := H
      replace H : (if (t114 == t112) = true then (if t114 = true then (if t113.toList = t111.toList then (if t116 = true then (some (t115.toList == ([97] : List UInt8))) else (some false)) else (some false)) else (if t116 = true then (some (t115.toList == ([97] : List UInt8))) else (some false))) else (some false)) = some r := H
      have A6 := Aside0.mk A60
      clear A60
      by_cases c7 : (t114 == t112) = true
      · rw [if_pos c7] at H
        have c7b0 : (t114 == t112) = true := c7
        (try (have c7b1 : decide (t114 = t112) = true := by simpa using c7))
        (try (have c7b2 : (t114 == t112) = true := by simpa using c7))
        clear c7
        by_cases c8 : t114 = true
        · subst c8
          have H1 : (if t113.toList = t111.toList then (if t116 = true then (some (t115.toList == ([97] : List UInt8))) else (some false)) else (some false)) = some r := by rw [if_pos rfl] at H; exact H
          clear H
          have H := H1
          clear H1
          by_cases c9 : t113.toList = t111.toList
          · rw [if_pos c9] at H
            have c9b0 : (t113.toList == t111.toList) = true := beq_iff_eq.mpr c9
            have c9b1 : (t113.toList != t111.toList) = false := bne_eq_false_iff_eq.mpr c9
            clear c9
            by_cases c10 : t116 = true
            · subst c10
              have H1 : (some (t115.toList == ([97] : List UInt8))) = some r := by rw [if_pos rfl] at H; exact H
              clear H
              have H := H1
              clear H1
              obtain rfl := Option.some.inj H
              go_enter Try.func6, Try.ntmps6
              go_wp2_with (first | ((with_reducible refine gate_callee (f := 14) rfl ?_); refine goesL_ (some 17) rfl rfl Try.func14 (by kernel_rfl) rfl #[.string a0] rfl (by (try simp only [List.map_toArray, List.map_cons, List.map_nil]); first | done | rfl | (simp only [List.length_drop, List.length_take]; rfl)) ?_; (with_reducible refine (spec_UnescapeAddress.calls k a0 t111 t112 _ A4.out).mono ?_); rintro e w11 ⟨rfl, hb⟩; refine ⟨_, rfl, ?_⟩; have n0_ := Aside0.mk (below_step (by repeat (first | (with_reducible first | exact HB.out | apply below_alloc | apply pw_below_drewN | apply below_drew1) | exact HB.out)) hb); clear HB; have HB := n0_; clear n0_; (try clear hb); (try clear hb2); (try clear hk); (try clear hi)) | ((with_reducible refine gate_callee (f := 15) rfl ?_); refine goesL_ (some 22) rfl rfl Try.func15 (by kernel_rfl) rfl #[.string a0] rfl (by (try simp only [List.map_toArray, List.map_cons, List.map_nil]); first | done | rfl | (simp only [List.length_drop, List.length_take]; rfl)) ?_; (with_reducible refine (impl_AdUnescape.calls k a0 t113 true _ A5.out).mono ?_); rintro e w12 ⟨rfl, hb⟩; refine ⟨_, rfl, ?_⟩; have n0_ := Aside0.mk (below_step (by repeat (first | (with_reducible first | exact HB.out | apply below_alloc | apply pw_below_drewN | apply below_drew1) | exact HB.out)) hb); clear HB; have HB := n0_; clear n0_; (try clear hb); (try clear hb2); (try clear hk); (try clear hi)) | ((with_reducible refine gate_callee (f := 15) rfl ?_); refine goesL_ (some 26) rfl rfl Try.func15 (by kernel_rfl) rfl #[.string (⟨#[37, 54, 49]⟩ : ByteArray)] rfl (by (try simp only [List.map_toArray, List.map_cons, List.map_nil]); first | done | rfl | (simp only [List.length_drop, List.length_take]; rfl)) ?_; (with_reducible refine (impl_AdUnescape.calls k (⟨#[37, 54, 49]⟩ : ByteArray) t115 true _ A6.out).mono ?_); rintro e w13 ⟨rfl, hb⟩; refine ⟨_, rfl, ?_⟩; have n0_ := Aside0.mk (below_step (by repeat (first | (with_reducible first | exact HB.out | apply below_alloc | apply pw_below_drewN | apply below_drew1) | exact HB.out)) hb); clear HB; have HB := n0_; clear n0_; (try clear hb); (try clear hb2); (try clear hk); (try clear hi)))
              go_ret
              exact ⟨by first | rfl | (simp [errW_none, errW_some] <;> rfl) | (simp [*, errW_none, errW_some] <;> rfl), by repeat (first | (with_reducible first | exact HB.out | apply below_alloc | apply pw_below_drewN | apply below_drew1) | exact HB.out)⟩
            · replace c10 := Bool.eq_false_iff.mpr c10
              subst c10
              have H1 : (some false) = some r := by rw [if_neg (show ¬ (false = true) by decide)] at H; exact H
              clear H
              have H := H1
              clear H1
              obtain rfl := Option.some.inj H
              go_enter Try.func6, Try.ntmps6
              go_wp2_with (first | ((with_reducible refine gate_callee (f := 14) rfl ?_); refine goesL_ (some 17) rfl rfl Try.func14 (by kernel_rfl) rfl #[.string a0] rfl (by (try simp only [List.map_toArray, List.map_cons, List.map_nil]); first | done | rfl | (simp only [List.length_drop, List.length_take]; rfl)) ?_; (with_reducible refine (spec_UnescapeAddress.calls k a0 t111 t112 _ A4.out).mono ?_); rintro e w14 ⟨rfl, hb⟩; refine ⟨_, rfl, ?_⟩; have n0_ := Aside0.mk (below_step (by repeat (first | (with_reducible first | exact HB.out | apply below_alloc | apply pw_below_drewN | apply below_drew1) | exact HB.out)) hb); clear HB; have HB := n0_; clear n0_; (try clear hb); (try clear hb2); (try clear hk); (try clear hi)) | ((with_reducible refine gate_callee (f := 15) rfl ?_); refine goesL_ (some 22) rfl rfl Try.func15 (by kernel_rfl) rfl #[.string a0] rfl (by (try simp only [List.map_toArray, List.map_cons, List.map_nil]); first | done | rfl | (simp only [List.length_drop, List.length_take]; rfl)) ?_; (with_reducible refine (impl_AdUnescape.calls k a0 t113 true _ A5.out).mono ?_); rintro e w15 ⟨rfl, hb⟩; refine ⟨_, rfl, ?_⟩; have n0_ := Aside0.mk (below_step (by repeat (first | (with_reducible first | exact HB.out | apply below_alloc | apply pw_below_drewN | apply below_drew1) | exact HB.out)) hb); clear HB; have HB := n0_; clear n0_; (try clear hb); (try clear hb2); (try clear hk); (try clear hi)) | ((with_reducible refine gate_callee (f := 15) rfl ?_); refine goesL_ (some 26) rfl rfl Try.func15 (by kernel_rfl) rfl #[.string (⟨#[37, 54, 49]⟩ : ByteArray)] rfl (by (try simp only [List.map_toArray, List.map_cons, List.map_nil]); first | done | rfl | (simp only [List.length_drop, List.length_take]; rfl)) ?_; (with_reducible refine (impl_AdUnescape.calls k (⟨#[37, 54, 49]⟩ : ByteArray) t115 false _ A6.out).mono ?_); rintro e w16 ⟨rfl, hb⟩; refine ⟨_, rfl, ?_⟩; have n0_ := Aside0.mk (below_step (by repeat (first | (with_reducible first | exact HB.out | apply below_alloc | apply pw_below_drewN | apply below_drew1) | exact HB.out)) hb); clear HB; have HB := n0_; clear n0_; (try clear hb); (try clear hb2); (try clear hk); (try clear hi)))
              go_ret
              exact ⟨by first | rfl | (simp [errW_none, errW_some] <;> rfl) | (simp [*, errW_none, errW_some] <;> rfl), by repeat (first | (with_reducible first | exact HB.out | apply below_alloc | apply pw_below_drewN | apply below_drew1) | exact HB.out)⟩
          · rw [if_neg c9] at H
            have c9b0 : (t113.toList == t111.toList) = false := beq_eq_false_iff_ne.mpr c9
            have c9b1 : (t113.toList != t111.toList) = true := bne_iff_ne.mpr c9
            obtain rfl := Option.some.inj H
            go_enter Try.func6, Try.ntmps6
            go_wp2_with (first | ((with_reducible refine gate_callee (f := 14) rfl ?_); refine goesL_ (some 17) rfl rfl Try.func14 (by kernel_rfl) rfl #[.string a0] rfl (by (try simp only [List.map_toArray, List.map_cons, List.map_nil]); first | done | rfl | (simp only [List.length_drop, List.length_take]; rfl)) ?_; (with_reducible refine (spec_UnescapeAddress.calls k a0 t111 t112 _ A4.out).mono ?_); rintro e w17 ⟨rfl, hb⟩; refine ⟨_, rfl, ?_⟩; have n0_ := Aside0.mk (below_step (by repeat (first | (with_reducible first | exact HB.out | apply below_alloc | apply pw_below_drewN | apply below_drew1) | exact HB.out)) hb); clear HB; have HB := n0_; clear n0_; (try clear hb); (try clear hb2); (try clear hk); (try clear hi)) | ((with_reducible refine gate_callee (f := 15) rfl ?_); refine goesL_ (some 22) rfl rfl Try.func15 (by kernel_rfl) rfl #[.string a0] rfl (by (try simp only [List.map_toArray, List.map_cons, List.map_nil]); first | done | rfl | (simp only [List.length_drop, List.length_take]; rfl)) ?_; (with_reducible refine (impl_AdUnescape.calls k a0 t113 true _ A5.out).mono ?_); rintro e w18 ⟨rfl, hb⟩; refine ⟨_, rfl, ?_⟩; have n0_ := Aside0.mk (below_step (by repeat (first | (with_reducible first | exact HB.out | apply below_alloc | apply pw_below_drewN | apply below_drew1) | exact HB.out)) hb); clear HB; have HB := n0_; clear n0_; (try clear hb); (try clear hb2); (try clear hk); (try clear hi)) | ((with_reducible refine gate_callee (f := 15) rfl ?_); refine goesL_ (some 26) rfl rfl Try.func15 (by kernel_rfl) rfl #[.string (⟨#[37, 54, 49]⟩ : ByteArray)] rfl (by (try simp only [List.map_toArray, List.map_cons, List.map_nil]); first | done | rfl | (simp only [List.length_drop, List.length_take]; rfl)) ?_; (with_reducible refine (impl_AdUnescape.calls k (⟨#[37, 54, 49]⟩ : ByteArray) t115 t116 _ A6.out).mono ?_); rintro e w19 ⟨rfl, hb⟩; refine ⟨_, rfl, ?_⟩; have n0_ := Aside0.mk (below_step (by repeat (first | (with_reducible first | exact HB.out | apply below_alloc | apply pw_below_drewN | apply below_drew1) | exact HB.out)) hb); clear HB; have HB := n0_; clear n0_; (try clear hb); (try clear hb2); (try clear hk); (try clear hi)))
            go_ret
            exact ⟨by first | rfl | (simp [errW_none, errW_some] <;> rfl) | (simp [*, errW_none, errW_some] <;> rfl), by repeat (first | (with_reducible first | exact HB.out | apply below_alloc | apply pw_below_drewN | apply below_drew1) | exact HB.out)⟩
        · replace c8 := Bool.eq_false_iff.mpr c8
          subst c8
          have H1 : (if t116 = true then (some (t115.toList == ([97] : List UInt8))) else (some false)) = some r := by rw [if_neg (show ¬ (false = true) by decide)] at H; exact H
          clear H
          have H := H1
          clear H1
          by_cases c20 : t116 = true
          · subst c20
            have H1 : (some (t115.toList == ([97] : List UInt8))) = some r := by rw [if_pos rfl] at H; exact H
            clear H
            have H := H1
            clear H1
            obtain rfl := Option.some.inj H
            go_enter Try.func6, Try.ntmps6
            go_wp2_with (first | ((with_reducible refine gate_callee (f := 14) rfl ?_); refine goesL_ (some 17) rfl rfl Try.func14 (by kernel_rfl) rfl #[.string a0] rfl (by (try simp only [List.map_toArray, List.map_cons, List.map_nil]); first | done | rfl | (simp only [List.length_drop, List.length_take]; rfl)) ?_; (with_reducible refine (spec_UnescapeAddress.calls k a0 t111 t112 _ A4.out).mono ?_); rintro e w21 ⟨rfl, hb⟩; refine ⟨_, rfl, ?_⟩; have n0_ := Aside0.mk (below_step (by repeat (first | (with_reducible first | exact HB.out | apply below_alloc | apply pw_below_drewN | apply below_drew1) | exact HB.out)) hb); clear HB; have HB := n0_; clear n0_; (try clear hb); (try clear hb2); (try clear hk); (try clear hi)) | ((with_reducible refine gate_callee (f := 15) rfl ?_); refine goesL_ (some 22) rfl rfl Try.func15 (by kernel_rfl) rfl #[.string a0] rfl (by (try simp only [List.map_toArray, List.map_cons, List.map_nil]); first | done | rfl | (simp only [List.length_drop, List.length_take]; rfl)) ?_; (with_reducible refine (impl_AdUnescape.calls k a0 t113 false _ A5.out).mono ?_); rintro e w22 ⟨rfl, hb⟩; refine ⟨_, rfl, ?_⟩; have n0_ := Aside0.mk (below_step (by repeat (first | (with_reducible first | exact HB.out | apply below_alloc | apply pw_below_drewN | apply below_drew1) | exact HB.out)) hb); clear HB; have HB := n0_; clear n0_; (try clear hb); (try clear hb2); (try clear hk); (try clear hi)) | ((with_reducible refine gate_callee (f := 15) rfl ?_); refine goesL_ (some 26) rfl rfl Try.func15 (by kernel_rfl) rfl #[.string (⟨#[37, 54, 49]⟩ : ByteArray)] rfl (by (try simp only [List.map_toArray, List.map_cons, List.map_nil]); first | done | rfl | (simp only [List.length_drop, List.length_take]; rfl)) ?_; (with_reducible refine (impl_AdUnescape.calls k (⟨#[37, 54, 49]⟩ : ByteArray) t115 true _ A6.out).mono ?_); rintro e w23 ⟨rfl, hb⟩; refine ⟨_, rfl, ?_⟩; have n0_ := Aside0.mk (below_step (by repeat (first | (with_reducible first | exact HB.out | apply below_alloc | apply pw_below_drewN | apply below_drew1) | exact HB.out)) hb); clear HB; have HB := n0_; clear n0_; (try clear hb); (try clear hb2); (try clear hk); (try clear hi)))
            go_ret
            exact ⟨by first | rfl | (simp [errW_none, errW_some] <;> rfl) | (simp [*, errW_none, errW_some] <;> rfl), by repeat (first | (with_reducible first | exact HB.out | apply below_alloc | apply pw_below_drewN | apply below_drew1) | exact HB.out)⟩
          · replace c20 := Bool.eq_false_iff.mpr c20
            subst c20
            have H1 : (some false) = some r := by rw [if_neg (show ¬ (false = true) by decide)] at H; exact H
            clear H
            have H := H1
            clear H1
            obtain rfl := Option.some.inj H
            go_enter Try.func6, Try.ntmps6
            go_wp2_with (first | ((with_reducible refine gate_callee (f := 14) rfl ?_); refine goesL_ (some 17) rfl rfl Try.func14 (by kernel_rfl) rfl #[.string a0] rfl (by (try simp only [List.map_toArray, List.map_cons, List.map_nil]); first | done | rfl | (simp only [List.length_drop, List.length_take]; rfl)) ?_; (with_reducible refine (spec_UnescapeAddress.calls k a0 t111 t112 _ A4.out).mono ?_); rintro e w24 ⟨rfl, hb⟩; refine ⟨_, rfl, ?_⟩; have n0_ := Aside0.mk (below_step (by repeat (first | (with_reducible first | exact HB.out | apply below_alloc | apply pw_below_drewN | apply below_drew1) | exact HB.out)) hb); clear HB; have HB := n0_; clear n0_; (try clear hb); (try clear hb2); (try clear hk); (try clear hi)) | ((with_reducible refine gate_callee (f := 15) rfl ?_); refine goesL_ (some 22) rfl rfl Try.func15 (by kernel_rfl) rfl #[.string a0] rfl (by (try simp only [List.map_toArray, List.map_cons, List.map_nil]); first | done | rfl | (simp only [List.length_drop, List.length_take]; rfl)) ?_; (with_reducible refine (impl_AdUnescape.calls k a0 t113 false _ A5.out).mono ?_); rintro e w25 ⟨rfl, hb⟩; refine ⟨_, rfl, ?_⟩; have n0_ := Aside0.mk (below_step (by repeat (first | (with_reducible first | exact HB.out | apply below_alloc | apply pw_below_drewN | apply below_drew1) | exact HB.out)) hb); clear HB; have HB := n0_; clear n0_; (try clear hb); (try clear hb2); (try clear hk); (try clear hi)) | ((with_reducible refine gate_callee (f := 15) rfl ?_); refine goesL_ (some 26) rfl rfl Try.func15 (by kernel_rfl) rfl #[.string (⟨#[37, 54, 49]⟩ : ByteArray)] rfl (by (try simp only [List.map_toArray, List.map_cons, List.map_nil]); first | done | rfl | (simp only [List.length_drop, List.length_take]; rfl)) ?_; (with_reducible refine (impl_AdUnescape.calls k (⟨#[37, 54, 49]⟩ : ByteArray) t115 false _ A6.out).mono ?_); rintro e w26 ⟨rfl, hb⟩; refine ⟨_, rfl, ?_⟩; have n0_ := Aside0.mk (below_step (by repeat (first | (with_reducible first | exact HB.out | apply below_alloc | apply pw_below_drewN | apply below_drew1) | exact HB.out)) hb); clear HB; have HB := n0_; clear n0_; (try clear hb); (try clear hb2); (try clear hk); (try clear hi)))
            go_ret
            exact ⟨by first | rfl | (simp [errW_none, errW_some] <;> rfl) | (simp [*, errW_none, errW_some] <;> rfl), by repeat (first | (with_reducible first | exact HB.out | apply below_alloc | apply pw_below_drewN | apply below_drew1) | exact HB.out)⟩
      · rw [if_neg c7] at H
        have c7b0 : (t114 == t112) = false := by simpa using c7
        (try (have c7b1 : decide (t114 = t112) = false := by simpa using c7))
        (try (have c7b2 : (t114 == t112) = false := by simpa using c7))
        (try (have c7b3 : ¬ (t114 = t112) := by simpa using c7))
        clear c7
        obtain rfl := Option.some.inj H
        go_enter Try.func6, Try.ntmps6
        go_wp2_with (first | ((with_reducible refine gate_callee (f := 14) rfl ?_); refine goesL_ (some 17) rfl rfl Try.func14 (by kernel_rfl) rfl #[.string a0] rfl (by (try simp only [List.map_toArray, List.map_cons, List.map_nil]); first | done | rfl | (simp only [List.length_drop, List.length_take]; rfl)) ?_; (with_reducible refine (spec_UnescapeAddress.calls k a0 t111 t112 _ A4.out).mono ?_); rintro e w27 ⟨rfl, hb⟩; refine ⟨_, rfl, ?_⟩; have n0_ := Aside0.mk (below_step (by repeat (first | (with_reducible first | exact HB.out | apply below_alloc | apply pw_below_drewN | apply below_drew1) | exact HB.out)) hb); clear HB; have HB := n0_; clear n0_; (try clear hb); (try clear hb2); (try clear hk); (try clear hi)) | ((with_reducible refine gate_callee (f := 15) rfl ?_); refine goesL_ (some 22) rfl rfl Try.func15 (by kernel_rfl) rfl #[.string a0] rfl (by (try simp only [List.map_toArray, List.map_cons, List.map_nil]); first | done | rfl | (simp only [List.length_drop, List.length_take]; rfl)) ?_; (with_reducible refine (impl_AdUnescape.calls k a0 t113 t114 _ A5.out).mono ?_); rintro e w28 ⟨rfl, hb⟩; refine ⟨_, rfl, ?_⟩; have n0_ := Aside0.mk (below_step (by repeat (first | (with_reducible first | exact HB.out | apply below_alloc | apply pw_below_drewN | apply below_drew1) | exact HB.out)) hb); clear HB; have HB := n0_; clear n0_; (try clear hb); (try clear hb2); (try clear hk); (try clear hi)) | ((with_reducible refine gate_callee (f := 15) rfl ?_); refine goesL_ (some 26) rfl rfl Try.func15 (by kernel_rfl) rfl #[.string (⟨#[37, 54, 49]⟩ : ByteArray)] rfl (by (try simp only [List.map_toArray, List.map_cons, List.map_nil]); first | done | rfl | (simp only [List.length_drop, List.length_take]; rfl)) ?_; (with_reducible refine (impl_AdUnescape.calls k (⟨#[37, 54, 49]⟩ : ByteArray) t115 t116 _ A6.out).mono ?_); rintro e w29 ⟨rfl, hb⟩; refine ⟨_, rfl, ?_⟩; have n0_ := Aside0.mk (below_step (by repeat (first | (with_reducible first | exact HB.out | apply below_alloc | apply pw_below_drewN | apply below_drew1) | exact HB.out)) hb); clear HB; have HB := n0_; clear n0_; (try clear hb); (try clear hb2); (try clear hk); (try clear hi)))
        go_ret
        exact ⟨by first | rfl | (simp [errW_none, errW_some] <;> rfl) | (simp [*, errW_none, errW_some] <;> rfl), by repeat (first | (with_reducible first | exact HB.out | apply below_alloc | apply pw_below_drewN | apply below_drew1) | exact HB.out)⟩

/-- THE ONE PURE STATEMENT of laws_FnAdUnescape: yours. -/
def laws_FnAdUnescape.Pure : Prop := ∀ (a0 : ByteArray), a0.size ≤ 140737488351232 → ∃ k, laws_FnAdUnescape.f k a0 = some true
theorem laws_FnAdUnescape.walk (P : laws_FnAdUnescape.Pure) (a0 : ByteArray) (w : World) (w0 : a0.size ≤ 140737488351232) :
    Calls Try.prog 6 #[.string a0] w fun e w' => e = .returned (.bool true) ∧ Below w.heap.size w w' := by
  obtain ⟨k, h⟩ := P a0 w0
  refine (laws_FnAdUnescape.calls k a0 true w h).mono ?_
  rintro e w' ⟨rfl, hd⟩
  exact ⟨rfl, hd⟩

end Go.Proofs.Ytpndgbiaomglpaa.R
