-- Written by a program of this session out of the translation; Lean checks it.
import Derived.Test.YtoldgnmgjpjapaaDoorQ0
namespace Go.Proofs.YtoldgnmgjpjapaaDoor.Q
open Go.RowKit Go.Proofs.YtoldgnmgjpjapaaDoorW.PrintWords Go.Proofs.YtoldgnmgjpjapaaDoorW.PrintLast Go.Proofs.YtoldgnmgjpjapaaDoor.Gt
set_option linter.unusedVariables false
set_option linter.unusedSimpArgs false

/-! ### spec_argument: function 20 -/
mutual
def spec_argument.j0 : Nat → ByteArray → Bool → Option (Int × ByteArray × Bool)
 | 0, _, _ => none
 | k + 1, x0, x15 => if x15 = true then (some (0, (⟨#[]⟩ : ByteArray), false)) else (spec_argument.l0 k x0 3 0)
def spec_argument.l0 : Nat → ByteArray → Int → Int → Option (Int × ByteArray × Bool)
 | 0, _, _, _ => none
 | k + 1, x0, x5, x6 => if x5 < (x0.size : Int) then (if x5 < 5 then (if 0 ≤ x5 then (if (bt x0 x5) ≥ 48 then (if (bt x0 x5) ≤ 57 then (spec_argument.l0 k x0 (wrap64 (x5 + 1)) (wrap64 ((wrap64 (x6 * 10)) + (((bt x0 x5) - 48) % 256)))) else (if x5 ≤ (x0.size : Int) then (if x5 = 3 then (some (0, (⟨#[]⟩ : ByteArray), false)) else (if x5 = 5 then (if 3 < (x0.size : Int) then (if (bt x0 3) = 48 then (some (0, (⟨#[]⟩ : ByteArray), false)) else (if x6 > 63 then (some (0, (⟨#[]⟩ : ByteArray), false)) else (if (x0.extract (x5 : Int).toNat x0.size).toList = ([] : List UInt8) then (some (x6, x0.extract (x5 : Int).toNat x0.size, true)) else (if (x0.extract (x5 : Int).toNat x0.size).toList = ([112, 97, 116, 104] : List UInt8) then (some (x6, x0.extract (x5 : Int).toNat x0.size, true)) else (if (x0.extract (x5 : Int).toNat x0.size).toList = ([110, 97, 109, 101, 115, 112, 97, 99, 101] : List UInt8) then (if x6 = 0 then (some (x6, x0.extract (x5 : Int).toNat x0.size, true)) else (some (0, (⟨#[]⟩ : ByteArray), false))) else (some (0, (⟨#[]⟩ : ByteArray), false))))))) else (none)) else (if x6 > 63 then (some (0, (⟨#[]⟩ : ByteArray), false)) else (if (x0.extract (x5 : Int).toNat x0.size).toList = ([] : List UInt8) then (some (x6, x0.extract (x5 : Int).toNat x0.size, true)) else (if (x0.extract (x5 : Int).toNat x0.size).toList = ([112, 97, 116, 104] : List UInt8) then (some (x6, x0.extract (x5 : Int).toNat x0.size, true)) else (if (x0.extract (x5 : Int).toNat x0.size).toList = ([110, 97, 109, 101, 115, 112, 97, 99, 101] : List UInt8) then (if x6 = 0 then (some (x6, x0.extract (x5 : Int).toNat x0.size, true)) else (some (0, (⟨#[]⟩ : ByteArray), false))) else (some (0, (⟨#[]⟩ : ByteArray), false)))))))) else (none))) else (if x5 ≤ (x0.size : Int) then (if x5 = 3 then (some (0, (⟨#[]⟩ : ByteArray), false)) else (if x5 = 5 then (if 3 < (x0.size : Int) then (if (bt x0 3) = 48 then (some (0, (⟨#[]⟩ : ByteArray), false)) else (if x6 > 63 then (some (0, (⟨#[]⟩ : ByteArray), false)) else (if (x0.extract (x5 : Int).toNat x0.size).toList = ([] : List UInt8) then (some (x6, x0.extract (x5 : Int).toNat x0.size, true)) else (if (x0.extract (x5 : Int).toNat x0.size).toList = ([112, 97, 116, 104] : List UInt8) then (some (x6, x0.extract (x5 : Int).toNat x0.size, true)) else (if (x0.extract (x5 : Int).toNat x0.size).toList = ([110, 97, 109, 101, 115, 112, 97, 99, 101] : List UInt8) then (if x6 = 0 then (some (x6, x0.extract (x5 : Int).toNat x0.size, true)) else (some (0, (⟨#[]⟩ : ByteArray), false))) else (some (0, (⟨#[]⟩ : ByteArray), false))))))) else (none)) else (if x6 > 63 then (some (0, (⟨#[]⟩ : ByteArray), false)) else (if (x0.extract (x5 : Int).toNat x0.size).toList = ([] : List UInt8) then (some (x6, x0.extract (x5 : Int).toNat x0.size, true)) else (if (x0.extract (x5 : Int).toNat x0.size).toList = ([112, 97, 116, 104] : List UInt8) then (some (x6, x0.extract (x5 : Int).toNat x0.size, true)) else (if (x0.extract (x5 : Int).toNat x0.size).toList = ([110, 97, 109, 101, 115, 112, 97, 99, 101] : List UInt8) then (if x6 = 0 then (some (x6, x0.extract (x5 : Int).toNat x0.size, true)) else (some (0, (⟨#[]⟩ : ByteArray), false))) else (some (0, (⟨#[]⟩ : ByteArray), false)))))))) else (none))) else (none)) else (if 0 ≤ x5 then (if x5 ≤ (x0.size : Int) then (if x5 = 3 then (some (0, (⟨#[]⟩ : ByteArray), false)) else (if x5 = 5 then (if 3 < (x0.size : Int) then (if (bt x0 3) = 48 then (some (0, (⟨#[]⟩ : ByteArray), false)) else (if x6 > 63 then (some (0, (⟨#[]⟩ : ByteArray), false)) else (if (x0.extract (x5 : Int).toNat x0.size).toList = ([] : List UInt8) then (some (x6, x0.extract (x5 : Int).toNat x0.size, true)) else (if (x0.extract (x5 : Int).toNat x0.size).toList = ([112, 97, 116, 104] : List UInt8) then (some (x6, x0.extract (x5 : Int).toNat x0.size, true)) else (if (x0.extract (x5 : Int).toNat x0.size).toList = ([110, 97, 109, 101, 115, 112, 97, 99, 101] : List UInt8) then (if x6 = 0 then (some (x6, x0.extract (x5 : Int).toNat x0.size, true)) else (some (0, (⟨#[]⟩ : ByteArray), false))) else (some (0, (⟨#[]⟩ : ByteArray), false))))))) else (none)) else (if x6 > 63 then (some (0, (⟨#[]⟩ : ByteArray), false)) else (if (x0.extract (x5 : Int).toNat x0.size).toList = ([] : List UInt8) then (some (x6, x0.extract (x5 : Int).toNat x0.size, true)) else (if (x0.extract (x5 : Int).toNat x0.size).toList = ([112, 97, 116, 104] : List UInt8) then (some (x6, x0.extract (x5 : Int).toNat x0.size, true)) else (if (x0.extract (x5 : Int).toNat x0.size).toList = ([110, 97, 109, 101, 115, 112, 97, 99, 101] : List UInt8) then (if x6 = 0 then (some (x6, x0.extract (x5 : Int).toNat x0.size, true)) else (some (0, (⟨#[]⟩ : ByteArray), false))) else (some (0, (⟨#[]⟩ : ByteArray), false)))))))) else (none)) else (none))) else (if 0 ≤ x5 then (if x5 ≤ (x0.size : Int) then (if x5 = 3 then (some (0, (⟨#[]⟩ : ByteArray), false)) else (if x5 = 5 then (if 3 < (x0.size : Int) then (if (bt x0 3) = 48 then (some (0, (⟨#[]⟩ : ByteArray), false)) else (if x6 > 63 then (some (0, (⟨#[]⟩ : ByteArray), false)) else (if (x0.extract (x5 : Int).toNat x0.size).toList = ([] : List UInt8) then (some (x6, x0.extract (x5 : Int).toNat x0.size, true)) else (if (x0.extract (x5 : Int).toNat x0.size).toList = ([112, 97, 116, 104] : List UInt8) then (some (x6, x0.extract (x5 : Int).toNat x0.size, true)) else (if (x0.extract (x5 : Int).toNat x0.size).toList = ([110, 97, 109, 101, 115, 112, 97, 99, 101] : List UInt8) then (if x6 = 0 then (some (x6, x0.extract (x5 : Int).toNat x0.size, true)) else (some (0, (⟨#[]⟩ : ByteArray), false))) else (some (0, (⟨#[]⟩ : ByteArray), false))))))) else (none)) else (if x6 > 63 then (some (0, (⟨#[]⟩ : ByteArray), false)) else (if (x0.extract (x5 : Int).toNat x0.size).toList = ([] : List UInt8) then (some (x6, x0.extract (x5 : Int).toNat x0.size, true)) else (if (x0.extract (x5 : Int).toNat x0.size).toList = ([112, 97, 116, 104] : List UInt8) then (some (x6, x0.extract (x5 : Int).toNat x0.size, true)) else (if (x0.extract (x5 : Int).toNat x0.size).toList = ([110, 97, 109, 101, 115, 112, 97, 99, 101] : List UInt8) then (if x6 = 0 then (some (x6, x0.extract (x5 : Int).toNat x0.size, true)) else (some (0, (⟨#[]⟩ : ByteArray), false))) else (some (0, (⟨#[]⟩ : ByteArray), false)))))))) else (none)) else (none))
end
def spec_argument.f (k : Nat) (a0 : ByteArray) : Option (Int × ByteArray × Bool) := if (a0.size : Int) < 4 then (spec_argument.j0 k a0 true) else (if 0 ≤ 3 then (if 3 ≤ (a0.size : Int) then (spec_argument.j0 k a0 ((a0.extract 0 3).toList != ([97, 114, 103] : List UInt8))) else (none)) else (none))
theorem spec_argument.mono_l : ∀ k, (∀ y0 y1, LeO (spec_argument.j0 k y0 y1) (spec_argument.j0 (k + 1) y0 y1)) ∧ (∀ y0 y1 y2, LeO (spec_argument.l0 k y0 y1 y2) (spec_argument.l0 (k + 1) y0 y1 y2))
 | 0 => ⟨fun _ _ r h => by simp [spec_argument.j0] at h, fun _ _ _ r h => by simp [spec_argument.l0] at h⟩
 | k + 1 => by
  obtain ⟨ih0, ih1⟩ := spec_argument.mono_l k
  refine ⟨?_, ?_⟩
  ·intro y0 y1
   unfold spec_argument.j0
   repeat' first
   | (with_reducible exact ih0 _ _)
   | (with_reducible exact ih1 _ _ _)
   | (with_reducible exact LeO.refl _)
   | (with_reducible exact LeO.none _)
   | (with_reducible refine LeO.ite ?_ ?_)
   | (with_reducible refine LeO.bind ?_ (fun _ => ?_))
   | exact ih0 _ _
   | exact ih1 _ _ _
   | exact LeO.none _
   | refine LeO.ite ?_ ?_
   | refine LeO.bind ?_ (fun _ => ?_)
  ·intro y0 y1 y2
   unfold spec_argument.l0
   repeat' first
   | (with_reducible exact ih0 _ _)
   | (with_reducible exact ih1 _ _ _)
   | (with_reducible exact LeO.refl _)
   | (with_reducible exact LeO.none _)
   | (with_reducible refine LeO.ite ?_ ?_)
   | (with_reducible refine LeO.bind ?_ (fun _ => ?_))
   | exact ih0 _ _
   | exact ih1 _ _ _
   | exact LeO.none _
   | refine LeO.ite ?_ ?_
   | refine LeO.bind ?_ (fun _ => ?_)
theorem spec_argument.mono : ∀ a0 k, LeO (spec_argument.f k a0) (spec_argument.f (k + 1) a0) := by
 intro a0 k
 obtain ⟨ih0, ih1⟩ := spec_argument.mono_l k
 unfold spec_argument.f
 repeat' first
   | (with_reducible exact ih0 _ _)
   | (with_reducible exact ih1 _ _ _)
   | (with_reducible exact LeO.refl _)
   | (with_reducible exact LeO.none _)
   | (with_reducible refine LeO.ite ?_ ?_)
   | (with_reducible refine LeO.bind ?_ (fun _ => ?_))
   | exact ih0 _ _
   | exact ih1 _ _ _
   | exact LeO.none _
   | refine LeO.ite ?_ ?_
   | refine LeO.bind ?_ (fun _ => ?_)
set_option maxHeartbeats 8000000 in
set_option maxRecDepth 100000 in
theorem spec_argument.calls (k : Nat) (a0 : ByteArray) (r1 : Int) (r2 : ByteArray) (r3 : Bool) (w : World) (h : spec_argument.f k a0 = some (r1, r2, r3)) :
  Calls Tryd.prog 20 #[.string a0] w fun e w' => e = .returned (.tuple #[.int .i64 r1, .string r2, .bool r3]) ∧ Drawn0 w w' := by
 have H : (if (a0.size : Int) < 4 then (spec_argument.j0 k a0 true) else (if 0 ≤ 3 then (if 3 ≤ (a0.size : Int) then (spec_argument.j0 k a0 ((a0.extract 0 3).toList != ([97, 114, 103] : List UInt8))) else (none)) else (none))) = some (r1, r2, r3) := h
 clear h
 have HC2 := Aside0.mk H
 clear H
 go_enter Tryd.func20, Tryd.ntmps20
 go_upto_region 1 with (fail)
 go_cut [15] (fun v15 wc => ∃ (kq : Nat) (x15_1 : Bool), v15 = .bool x15_1 ∧ Aside0 (spec_argument.j0 kq a0 x15_1 = some (r1, r2, r3)) ∧ Aside0 (kq ≤ k) ∧ Drawn0 w wc)
 case first =>
  have H := HC2.out
  clear HC2
  by_cases c3 : (a0.size : Int) < 4
  ·rw [if_pos c3] at H
   have c3b0 : decide ((a0.size : Int) < 4) = true := decide_eq_true c3
   have c3b1 : decide (a0.size < 4) = true := decide_eq_true (by omega)
   clear c3
   (first | rw [c3b0] | (simp only [i64_w, i32_w]; rw [c3b0]) | skip)
   have H' := Aside0.mk H
   clear H
   go_wp2
   go_meet
   case rel => exact ⟨_, (true), (by first | rfl | (simp; done) | (simp [*]; done)), H', ⟨by first | omega | exact Nat.le_refl _⟩, by repeat (first | exact Drawn0.refl _ | apply Drawn0.step)⟩
  ·rw [if_neg c3] at H
   have c3b0 : decide ((a0.size : Int) < 4) = false := decide_eq_false c3
   have c3b1 : decide (a0.size < 4) = false := decide_eq_false (by omega)
   clear c3
   (first | rw [c3b0] | (simp only [i64_w, i32_w]; rw [c3b0]) | skip)
   by_cases c4 : 0 ≤ 3
   ·rw [if_pos c4] at H
    have c4b0 := eq_true c4
    have c4b1 : decide (0 ≤ 3) = true := decide_eq_true c4
    clear c4
    by_cases c5 : 3 ≤ (a0.size : Int)
    ·rw [if_pos c5] at H
     have c5b0 := eq_true c5
     have c5b1 : decide (3 ≤ (a0.size : Int)) = true := decide_eq_true c5
     clear c5
     have H' := Aside0.mk H
     clear H
     go_wp2
     go_meet
     case rel => exact ⟨_, (((a0.extract 0 3).toList != ([97, 114, 103] : List UInt8))), (by first | rfl | (simp; done) | (simp [*]; done)), H', ⟨by first | omega | exact Nat.le_refl _⟩, by repeat (first | exact Drawn0.refl _ | apply Drawn0.step)⟩
    ·rw [if_neg c5] at H
     exact absurd H (by simp)
   ·rw [if_neg c4] at H
    exact absurd H (by simp)
 case rest =>
  clear HC2
  try clear c2
  try clear p2
  try clear c3
  try clear c3b0
  try clear c3b1
  try clear c4
  try clear c4b0
  try clear c4b1
  try clear c5
  try clear c5b0
  try clear c5b1
  obtain ⟨kq, x15_1, rfl, HA, HJ1, ⟨mc1, rfl⟩⟩ := hcut
  cases kq with
  | zero => exact absurd HA.out (by simp [spec_argument.j0])
  | succ kj1 =>
   have H := HA.out
   clear HA
   simp only [spec_argument.j0] at H
   by_cases c6 : x15_1 = true
   ·subst c6
    have H1 : (some (0, (⟨#[]⟩ : ByteArray), false)) = some (r1, r2, r3) := by rw [if_pos rfl] at H; exact H
    clear H
    have H := H1
    clear H1
    simp only [Option.some.injEq, Prod.mk.injEq] at H
    obtain ⟨rfl, rfl, rfl⟩ := H
    go_wp2
    go_ret3
    exact ⟨by first | rfl | (simp; done) | (simp [*]; done), by repeat (first | exact Drawn0.refl _ | apply Drawn0.step)⟩
   ·replace c6 := Bool.eq_false_iff.mpr c6
    subst c6
    have H1 : (spec_argument.l0 kj1 a0 3 0) = some (r1, r2, r3) := by rw [if_neg (show ¬ (false = true) by decide)] at H; exact H
    clear H
    have H := H1
    clear H1
    have H' := Aside0.mk H
    clear H
    go_wp2
    go_loopg [5, 6] kj1 (fun kq v5 v6 w' => ∃ (x5_2 : Int) (x6_2 : Int), v5 = .int .i64 x5_2 ∧ v6 = .int .i64 x6_2 ∧ Aside0 (spec_argument.l0 kq a0 x5_2 x6_2 = some (r1, r2, r3)) ∧ Aside0 (kq ≤ kj1) ∧ Drawn0 w w')
    case atStart => exact ⟨(3), (0), (by first | rfl | (simp; done) | (simp [*]; done)), (by first | rfl | (simp; done) | (simp [*]; done)), H', ⟨Nat.le_refl _⟩, by repeat (first | exact Drawn0.refl _ | apply Drawn0.step)⟩
    case round =>
     clear H'
     try clear c1
     try clear c2
     try clear p2
     try clear c3
     try clear c3b0
     try clear c3b1
     try clear c4
     try clear c4b0
     try clear c4b1
     try clear c5
     try clear c5b0
     try clear c5b1
     try clear c6
     try clear p2
     obtain ⟨x5_2, x6_2, rfl, rfl, HA, HK2, ⟨m2, rfl⟩⟩ := hrel
     cases gk with
     | zero => exact absurd HA.out (by simp [spec_argument.l0])
     | succ k2 =>
      have H := HA.out
      clear HA
      simp only [spec_argument.l0] at H
      by_cases c7 : x5_2 < (a0.size : Int)
      ·rw [if_pos c7] at H
       have c7b0 : decide (x5_2 < (a0.size : Int)) = true := decide_eq_true c7
       clear c7
       by_cases c8 : x5_2 < 5
       ·rw [if_pos c8] at H
        have c8b0 : decide (x5_2 < 5) = true := decide_eq_true c8
        clear c8
        by_cases c9 : 0 ≤ x5_2
        ·rw [if_pos c9] at H
         have c9b0 : decide (0 ≤ x5_2) = true := decide_eq_true c9
         clear c9
         by_cases c11 : (bt a0 x5_2) ≥ 48
         ·rw [if_pos c11] at H
          have c11b0 : decide (48 ≤ (bt a0 x5_2)) = true := decide_eq_true c11
          clear c11
          by_cases c13 : (bt a0 x5_2) ≤ 57
          ·rw [if_pos c13] at H
           have c13b0 : decide ((bt a0 x5_2) ≤ 57) = true := decide_eq_true c13
           clear c13
           have H' := Aside0.mk H
           clear H
           have p10 : 0 ≤ (x5_2 : Int) := of_decide_eq_true (by first | (with_reducible assumption) | assumption)
           have q10 : x5_2 < (a0.size : Int) := of_decide_eq_true (by first | (with_reducible assumption) | assumption)
           have hx10 := bt_at a0 x5_2
           replace p10 := eq_true p10
           replace q10 := eq_true q10
           have p12 : 0 ≤ (x5_2 : Int) := of_decide_eq_true (by first | (with_reducible assumption) | assumption)
           have q12 : x5_2 < (a0.size : Int) := of_decide_eq_true (by first | (with_reducible assumption) | assumption)
           have hx12 := bt_at a0 x5_2
           replace p12 := eq_true p12
           replace q12 := eq_true q12
           have p14 : 0 ≤ (x5_2 : Int) := of_decide_eq_true (by first | (with_reducible assumption) | assumption)
           have q14 : x5_2 < (a0.size : Int) := of_decide_eq_true (by first | (with_reducible assumption) | assumption)
           have hx14 := bt_at a0 x5_2
           replace p14 := eq_true p14
           replace q14 := eq_true q14
           go_wp2
           go_roundg k2
           case measure => have := HJ1.out; have := HK2.out; omega
           case rel => exact ⟨(wrap64 (x5_2 + 1)), (wrap64 ((wrap64 (x6_2 * 10)) + (((bt a0 x5_2) - 48) % 256))), (by first | rfl | (simp; done) | (simp [*]; done)), (by first | rfl | (simp; done) | (simp [*]; done)), H', ⟨by have := HJ1.out; have := HK2.out; omega⟩, by repeat (first | exact Drawn0.refl _ | apply Drawn0.step)⟩
          ·rw [if_neg c13] at H
           have c13b0 : decide ((bt a0 x5_2) ≤ 57) = false := decide_eq_false c13
           clear c13
           have c15b0 := eq_true (of_decide_eq_true (by first | (with_reducible assumption) | assumption) : 0 ≤ x5_2)
           by_cases c16 : x5_2 ≤ (a0.size : Int)
           ·rw [if_pos c16] at H
            have c16b0 := eq_true c16
            have c16b1 : decide (x5_2 ≤ (a0.size : Int)) = true := decide_eq_true c16
            clear c16
            by_cases c17 : x5_2 = 3
            ·rw [if_pos c17] at H
             have c17b0 : (x5_2 == 3) = true := beq_iff_eq.mpr c17
             have c17b1 : (x5_2 != 3) = false := bne_eq_false_iff_eq.mpr c17
             clear c17
             simp only [Option.some.injEq, Prod.mk.injEq] at H
             obtain ⟨rfl, rfl, rfl⟩ := H
             have p10 : 0 ≤ (x5_2 : Int) := of_decide_eq_true (by first | (with_reducible assumption) | assumption)
             have q10 : x5_2 < (a0.size : Int) := of_decide_eq_true (by first | (with_reducible assumption) | assumption)
             have hx10 := bt_at a0 x5_2
             replace p10 := eq_true p10
             replace q10 := eq_true q10
             have p12 : 0 ≤ (x5_2 : Int) := of_decide_eq_true (by first | (with_reducible assumption) | assumption)
             have q12 : x5_2 < (a0.size : Int) := of_decide_eq_true (by first | (with_reducible assumption) | assumption)
             have hx12 := bt_at a0 x5_2
             replace p12 := eq_true p12
             replace q12 := eq_true q12
             go_wp2
             go_ret3
             exact ⟨by first | rfl | (simp; done) | (simp [*]; done), by repeat (first | exact Drawn0.refl _ | apply Drawn0.step)⟩
            ·rw [if_neg c17] at H
             have c17b0 : (x5_2 == 3) = false := beq_eq_false_iff_ne.mpr c17
             have c17b1 : (x5_2 != 3) = true := bne_iff_ne.mpr c17
             by_cases c18 : x5_2 = 5
             ·rw [if_pos c18] at H
              have c18b0 : (x5_2 == 5) = true := beq_iff_eq.mpr c18
              have c18b1 : (x5_2 != 5) = false := bne_eq_false_iff_eq.mpr c18
              clear c18
              by_cases c19 : 3 < (a0.size : Int)
              ·rw [if_pos c19] at H
               have c19b0 : decide (3 < (a0.size : Int)) = true := decide_eq_true c19
               have c19b1 : decide (3 < a0.size) = true := decide_eq_true (by omega)
               clear c19
               by_cases c21 : (bt a0 3) = 48
               ·rw [if_pos c21] at H
                have c21b0 : ((bt a0 3) == 48) = true := beq_iff_eq.mpr c21
                have c21b1 : ((bt a0 3) != 48) = false := bne_eq_false_iff_eq.mpr c21
                clear c21
                simp only [Option.some.injEq, Prod.mk.injEq] at H
                obtain ⟨rfl, rfl, rfl⟩ := H
                have p10 : 0 ≤ (x5_2 : Int) := of_decide_eq_true (by first | (with_reducible assumption) | assumption)
                have q10 : x5_2 < (a0.size : Int) := of_decide_eq_true (by first | (with_reducible assumption) | assumption)
                have hx10 := bt_at a0 x5_2
                replace p10 := eq_true p10
                replace q10 := eq_true q10
                have p12 : 0 ≤ (x5_2 : Int) := of_decide_eq_true (by first | (with_reducible assumption) | assumption)
                have q12 : x5_2 < (a0.size : Int) := of_decide_eq_true (by first | (with_reducible assumption) | assumption)
                have hx12 := bt_at a0 x5_2
                replace p12 := eq_true p12
                replace q12 := eq_true q12
                have p20 : 0 ≤ (3 : Int) := (by omega)
                have q20 : 3 < a0.size := (by have : (3 : Int) < (a0.size : Int) := of_decide_eq_true (by first | (with_reducible assumption) | assumption); omega)
                have hx20 : ∀ h : 3 < a0.size, ((a0[3]'h).toNat : Int) = bt a0 3 := bt_at a0 3
                clear p20
                have qi20 : (3 < (a0.size : Int)) = True := eq_true (of_decide_eq_true (by first | (with_reducible assumption) | assumption))
                replace q20 := eq_true q20
                go_wp2
                go_ret3
                exact ⟨by first | rfl | (simp; done) | (simp [*]; done), by repeat (first | exact Drawn0.refl _ | apply Drawn0.step)⟩
               ·rw [if_neg c21] at H
                have c21b0 : ((bt a0 3) == 48) = false := beq_eq_false_iff_ne.mpr c21
                have c21b1 : ((bt a0 3) != 48) = true := bne_iff_ne.mpr c21
                by_cases c22 : x6_2 > 63
                ·rw [if_pos c22] at H
                 have c22b0 : decide (63 < x6_2) = true := decide_eq_true c22
                 clear c22
                 simp only [Option.some.injEq, Prod.mk.injEq] at H
                 obtain ⟨rfl, rfl, rfl⟩ := H
                 have p10 : 0 ≤ (x5_2 : Int) := of_decide_eq_true (by first | (with_reducible assumption) | assumption)
                 have q10 : x5_2 < (a0.size : Int) := of_decide_eq_true (by first | (with_reducible assumption) | assumption)
                 have hx10 := bt_at a0 x5_2
                 replace p10 := eq_true p10
                 replace q10 := eq_true q10
                 have p12 : 0 ≤ (x5_2 : Int) := of_decide_eq_true (by first | (with_reducible assumption) | assumption)
                 have q12 : x5_2 < (a0.size : Int) := of_decide_eq_true (by first | (with_reducible assumption) | assumption)
                 have hx12 := bt_at a0 x5_2
                 replace p12 := eq_true p12
                 replace q12 := eq_true q12
                 have p20 : 0 ≤ (3 : Int) := (by omega)
                 have q20 : 3 < a0.size := (by have : (3 : Int) < (a0.size : Int) := of_decide_eq_true (by first | (with_reducible assumption) | assumption); omega)
                 have hx20 : ∀ h : 3 < a0.size, ((a0[3]'h).toNat : Int) = bt a0 3 := bt_at a0 3
                 clear p20
                 have qi20 : (3 < (a0.size : Int)) = True := eq_true (of_decide_eq_true (by first | (with_reducible assumption) | assumption))
                 replace q20 := eq_true q20
                 go_wp2
                 go_ret3
                 exact ⟨by first | rfl | (simp; done) | (simp [*]; done), by repeat (first | exact Drawn0.refl _ | apply Drawn0.step)⟩
                ·rw [if_neg c22] at H
                 have c22b0 : decide (63 < x6_2) = false := decide_eq_false c22
                 clear c22
                 by_cases c23 : (a0.extract (x5_2 : Int).toNat a0.size).toList = ([] : List UInt8)
                 ·rw [if_pos c23] at H
                  have c23b0 : ((a0.extract (x5_2 : Int).toNat a0.size).toList == ([] : List UInt8)) = true := beq_iff_eq.mpr c23
                  have c23b1 : ((a0.extract (x5_2 : Int).toNat a0.size).toList != ([] : List UInt8)) = false := bne_eq_false_iff_eq.mpr c23
                  clear c23
                  simp only [Option.some.injEq, Prod.mk.injEq] at H
                  obtain ⟨rfl, rfl, rfl⟩ := H
                  have p10 : 0 ≤ (x5_2 : Int) := of_decide_eq_true (by first | (with_reducible assumption) | assumption)
                  have q10 : x5_2 < (a0.size : Int) := of_decide_eq_true (by first | (with_reducible assumption) | assumption)
                  have hx10 := bt_at a0 x5_2
                  replace p10 := eq_true p10
                  replace q10 := eq_true q10
                  have p12 : 0 ≤ (x5_2 : Int) := of_decide_eq_true (by first | (with_reducible assumption) | assumption)
                  have q12 : x5_2 < (a0.size : Int) := of_decide_eq_true (by first | (with_reducible assumption) | assumption)
                  have hx12 := bt_at a0 x5_2
                  replace p12 := eq_true p12
                  replace q12 := eq_true q12
                  have p20 : 0 ≤ (3 : Int) := (by omega)
                  have q20 : 3 < a0.size := (by have : (3 : Int) < (a0.size : Int) := of_decide_eq_true (by first | (with_reducible assumption) | assumption); omega)
                  have hx20 : ∀ h : 3 < a0.size, ((a0[3]'h).toNat : Int) = bt a0 3 := bt_at a0 3
                  clear p20
                  have qi20 : (3 < (a0.size : Int)) = True := eq_true (of_decide_eq_true (by first | (with_reducible assumption) | assumption))
                  replace q20 := eq_true q20
                  go_wp2
                  go_ret3
                  exact ⟨by first | rfl | (simp; done) | (simp [*]; done), by repeat (first | exact Drawn0.refl _ | apply Drawn0.step)⟩
                 ·rw [if_neg c23] at H
                  have c23b0 : ((a0.extract (x5_2 : Int).toNat a0.size).toList == ([] : List UInt8)) = false := beq_eq_false_iff_ne.mpr c23
                  have c23b1 : ((a0.extract (x5_2 : Int).toNat a0.size).toList != ([] : List UInt8)) = true := bne_iff_ne.mpr c23
                  by_cases c24 : (a0.extract (x5_2 : Int).toNat a0.size).toList = ([112, 97, 116, 104] : List UInt8)
                  ·rw [if_pos c24] at H
                   have c24b0 : ((a0.extract (x5_2 : Int).toNat a0.size).toList == ([112, 97, 116, 104] : List UInt8)) = true := beq_iff_eq.mpr c24
                   have c24b1 : ((a0.extract (x5_2 : Int).toNat a0.size).toList != ([112, 97, 116, 104] : List UInt8)) = false := bne_eq_false_iff_eq.mpr c24
                   clear c24
                   simp only [Option.some.injEq, Prod.mk.injEq] at H
                   obtain ⟨rfl, rfl, rfl⟩ := H
                   have p10 : 0 ≤ (x5_2 : Int) := of_decide_eq_true (by first | (with_reducible assumption) | assumption)
                   have q10 : x5_2 < (a0.size : Int) := of_decide_eq_true (by first | (with_reducible assumption) | assumption)
                   have hx10 := bt_at a0 x5_2
                   replace p10 := eq_true p10
                   replace q10 := eq_true q10
                   have p12 : 0 ≤ (x5_2 : Int) := of_decide_eq_true (by first | (with_reducible assumption) | assumption)
                   have q12 : x5_2 < (a0.size : Int) := of_decide_eq_true (by first | (with_reducible assumption) | assumption)
                   have hx12 := bt_at a0 x5_2
                   replace p12 := eq_true p12
                   replace q12 := eq_true q12
                   have p20 : 0 ≤ (3 : Int) := (by omega)
                   have q20 : 3 < a0.size := (by have : (3 : Int) < (a0.size : Int) := of_decide_eq_true (by first | (with_reducible assumption) | assumption); omega)
                   have hx20 : ∀ h : 3 < a0.size, ((a0[3]'h).toNat : Int) = bt a0 3 := bt_at a0 3
                   clear p20
                   have qi20 : (3 < (a0.size : Int)) = True := eq_true (of_decide_eq_true (by first | (with_reducible assumption) | assumption))
                   replace q20 := eq_true q20
                   go_wp2
                   go_ret3
                   exact ⟨by first | rfl | (simp; done) | (simp [*]; done), by repeat (first | exact Drawn0.refl _ | apply Drawn0.step)⟩
                  ·rw [if_neg c24] at H
                   have c24b0 : ((a0.extract (x5_2 : Int).toNat a0.size).toList == ([112, 97, 116, 104] : List UInt8)) = false := beq_eq_false_iff_ne.mpr c24
                   have c24b1 : ((a0.extract (x5_2 : Int).toNat a0.size).toList != ([112, 97, 116, 104] : List UInt8)) = true := bne_iff_ne.mpr c24
                   by_cases c25 : (a0.extract (x5_2 : Int).toNat a0.size).toList = ([110, 97, 109, 101, 115, 112, 97, 99, 101] : List UInt8)
                   ·rw [if_pos c25] at H
                    have c25b0 : ((a0.extract (x5_2 : Int).toNat a0.size).toList == ([110, 97, 109, 101, 115, 112, 97, 99, 101] : List UInt8)) = true := beq_iff_eq.mpr c25
                    have c25b1 : ((a0.extract (x5_2 : Int).toNat a0.size).toList != ([110, 97, 109, 101, 115, 112, 97, 99, 101] : List UInt8)) = false := bne_eq_false_iff_eq.mpr c25
                    clear c25
                    by_cases c26 : x6_2 = 0
                    ·rw [if_pos c26] at H
                     have c26b0 : (x6_2 == 0) = true := beq_iff_eq.mpr c26
                     have c26b1 : (x6_2 != 0) = false := bne_eq_false_iff_eq.mpr c26
                     clear c26
                     simp only [Option.some.injEq, Prod.mk.injEq] at H
                     obtain ⟨rfl, rfl, rfl⟩ := H
                     have p10 : 0 ≤ (x5_2 : Int) := of_decide_eq_true (by first | (with_reducible assumption) | assumption)
                     have q10 : x5_2 < (a0.size : Int) := of_decide_eq_true (by first | (with_reducible assumption) | assumption)
                     have hx10 := bt_at a0 x5_2
                     replace p10 := eq_true p10
                     replace q10 := eq_true q10
                     have p12 : 0 ≤ (x5_2 : Int) := of_decide_eq_true (by first | (with_reducible assumption) | assumption)
                     have q12 : x5_2 < (a0.size : Int) := of_decide_eq_true (by first | (with_reducible assumption) | assumption)
                     have hx12 := bt_at a0 x5_2
                     replace p12 := eq_true p12
                     replace q12 := eq_true q12
                     have p20 : 0 ≤ (3 : Int) := (by omega)
                     have q20 : 3 < a0.size := (by have : (3 : Int) < (a0.size : Int) := of_decide_eq_true (by first | (with_reducible assumption) | assumption); omega)
                     have hx20 : ∀ h : 3 < a0.size, ((a0[3]'h).toNat : Int) = bt a0 3 := bt_at a0 3
                     clear p20
                     have qi20 : (3 < (a0.size : Int)) = True := eq_true (of_decide_eq_true (by first | (with_reducible assumption) | assumption))
                     replace q20 := eq_true q20
                     go_wp2
                     go_ret3
                     exact ⟨by first | rfl | (simp; done) | (simp [*]; done), by repeat (first | exact Drawn0.refl _ | apply Drawn0.step)⟩
                    ·rw [if_neg c26] at H
                     have c26b0 : (x6_2 == 0) = false := beq_eq_false_iff_ne.mpr c26
                     have c26b1 : (x6_2 != 0) = true := bne_iff_ne.mpr c26
                     simp only [Option.some.injEq, Prod.mk.injEq] at H
                     obtain ⟨rfl, rfl, rfl⟩ := H
                     have p10 : 0 ≤ (x5_2 : Int) := of_decide_eq_true (by first | (with_reducible assumption) | assumption)
                     have q10 : x5_2 < (a0.size : Int) := of_decide_eq_true (by first | (with_reducible assumption) | assumption)
                     have hx10 := bt_at a0 x5_2
                     replace p10 := eq_true p10
                     replace q10 := eq_true q10
                     have p12 : 0 ≤ (x5_2 : Int) := of_decide_eq_true (by first | (with_reducible assumption) | assumption)
                     have q12 : x5_2 < (a0.size : Int) := of_decide_eq_true (by first | (with_reducible assumption) | assumption)
                     have hx12 := bt_at a0 x5_2
                     replace p12 := eq_true p12
                     replace q12 := eq_true q12
                     have p20 : 0 ≤ (3 : Int) := (by omega)
                     have q20 : 3 < a0.size := (by have : (3 : Int) < (a0.size : Int) := of_decide_eq_true (by first | (with_reducible assumption) | assumption); omega)
                     have hx20 : ∀ h : 3 < a0.size, ((a0[3]'h).toNat : Int) = bt a0 3 := bt_at a0 3
                     clear p20
                     have qi20 : (3 < (a0.size : Int)) = True := eq_true (of_decide_eq_true (by first | (with_reducible assumption) | assumption))
                     replace q20 := eq_true q20
                     go_wp2
                     go_ret3
                     exact ⟨by first | rfl | (simp; done) | (simp [*]; done), by repeat (first | exact Drawn0.refl _ | apply Drawn0.step)⟩
                   ·rw [if_neg c25] at H
                    have c25b0 : ((a0.extract (x5_2 : Int).toNat a0.size).toList == ([110, 97, 109, 101, 115, 112, 97, 99, 101] : List UInt8)) = false := beq_eq_false_iff_ne.mpr c25
                    have c25b1 : ((a0.extract (x5_2 : Int).toNat a0.size).toList != ([110, 97, 109, 101, 115, 112, 97, 99, 101] : List UInt8)) = true := bne_iff_ne.mpr c25
                    simp only [Option.some.injEq, Prod.mk.injEq] at H
                    obtain ⟨rfl, rfl, rfl⟩ := H
                    have p10 : 0 ≤ (x5_2 : Int) := of_decide_eq_true (by first | (with_reducible assumption) | assumption)
                    have q10 : x5_2 < (a0.size : Int) := of_decide_eq_true (by first | (with_reducible assumption) | assumption)
                    have hx10 := bt_at a0 x5_2
                    replace p10 := eq_true p10
                    replace q10 := eq_true q10
                    have p12 : 0 ≤ (x5_2 : Int) := of_decide_eq_true (by first | (with_reducible assumption) | assumption)
                    have q12 : x5_2 < (a0.size : Int) := of_decide_eq_true (by first | (with_reducible assumption) | assumption)
                    have hx12 := bt_at a0 x5_2
                    replace p12 := eq_true p12
                    replace q12 := eq_true q12
                    have p20 : 0 ≤ (3 : Int) := (by omega)
                    have q20 : 3 < a0.size := (by have : (3 : Int) < (a0.size : Int) := of_decide_eq_true (by first | (with_reducible assumption) | assumption); omega)
                    have hx20 : ∀ h : 3 < a0.size, ((a0[3]'h).toNat : Int) = bt a0 3 := bt_at a0 3
                    clear p20
                    have qi20 : (3 < (a0.size : Int)) = True := eq_true (of_decide_eq_true (by first | (with_reducible assumption) | assumption))
                    replace q20 := eq_true q20
                    go_wp2
                    go_ret3
                    exact ⟨by first | rfl | (simp; done) | (simp [*]; done), by repeat (first | exact Drawn0.refl _ | apply Drawn0.step)⟩
              ·rw [if_neg c19] at H
               exact absurd H (by simp)
             ·rw [if_neg c18] at H
              have c18b0 : (x5_2 == 5) = false := beq_eq_false_iff_ne.mpr c18
              have c18b1 : (x5_2 != 5) = true := bne_iff_ne.mpr c18
              by_cases c27 : x6_2 > 63
              ·rw [if_pos c27] at H
               have c27b0 : decide (63 < x6_2) = true := decide_eq_true c27
               clear c27
               simp only [Option.some.injEq, Prod.mk.injEq] at H
               obtain ⟨rfl, rfl, rfl⟩ := H
               have p10 : 0 ≤ (x5_2 : Int) := of_decide_eq_true (by first | (with_reducible assumption) | assumption)
               have q10 : x5_2 < (a0.size : Int) := of_decide_eq_true (by first | (with_reducible assumption) | assumption)
               have hx10 := bt_at a0 x5_2
               replace p10 := eq_true p10
               replace q10 := eq_true q10
               have p12 : 0 ≤ (x5_2 : Int) := of_decide_eq_true (by first | (with_reducible assumption) | assumption)
               have q12 : x5_2 < (a0.size : Int) := of_decide_eq_true (by first | (with_reducible assumption) | assumption)
               have hx12 := bt_at a0 x5_2
               replace p12 := eq_true p12
               replace q12 := eq_true q12
               go_wp2
               go_ret3
               exact ⟨by first | rfl | (simp; done) | (simp [*]; done), by repeat (first | exact Drawn0.refl _ | apply Drawn0.step)⟩
              ·rw [if_neg c27] at H
               have c27b0 : decide (63 < x6_2) = false := decide_eq_false c27
               clear c27
               by_cases c28 : (a0.extract (x5_2 : Int).toNat a0.size).toList = ([] : List UInt8)
               ·rw [if_pos c28] at H
                have c28b0 : ((a0.extract (x5_2 : Int).toNat a0.size).toList == ([] : List UInt8)) = true := beq_iff_eq.mpr c28
                have c28b1 : ((a0.extract (x5_2 : Int).toNat a0.size).toList != ([] : List UInt8)) = false := bne_eq_false_iff_eq.mpr c28
                clear c28
                simp only [Option.some.injEq, Prod.mk.injEq] at H
                obtain ⟨rfl, rfl, rfl⟩ := H
                have p10 : 0 ≤ (x5_2 : Int) := of_decide_eq_true (by first | (with_reducible assumption) | assumption)
                have q10 : x5_2 < (a0.size : Int) := of_decide_eq_true (by first | (with_reducible assumption) | assumption)
                have hx10 := bt_at a0 x5_2
                replace p10 := eq_true p10
                replace q10 := eq_true q10
                have p12 : 0 ≤ (x5_2 : Int) := of_decide_eq_true (by first | (with_reducible assumption) | assumption)
                have q12 : x5_2 < (a0.size : Int) := of_decide_eq_true (by first | (with_reducible assumption) | assumption)
                have hx12 := bt_at a0 x5_2
                replace p12 := eq_true p12
                replace q12 := eq_true q12
                go_wp2
                go_ret3
                exact ⟨by first | rfl | (simp; done) | (simp [*]; done), by repeat (first | exact Drawn0.refl _ | apply Drawn0.step)⟩
               ·rw [if_neg c28] at H
                have c28b0 : ((a0.extract (x5_2 : Int).toNat a0.size).toList == ([] : List UInt8)) = false := beq_eq_false_iff_ne.mpr c28
                have c28b1 : ((a0.extract (x5_2 : Int).toNat a0.size).toList != ([] : List UInt8)) = true := bne_iff_ne.mpr c28
                by_cases c29 : (a0.extract (x5_2 : Int).toNat a0.size).toList = ([112, 97, 116, 104] : List UInt8)
                ·rw [if_pos c29] at H
                 have c29b0 : ((a0.extract (x5_2 : Int).toNat a0.size).toList == ([112, 97, 116, 104] : List UInt8)) = true := beq_iff_eq.mpr c29
                 have c29b1 : ((a0.extract (x5_2 : Int).toNat a0.size).toList != ([112, 97, 116, 104] : List UInt8)) = false := bne_eq_false_iff_eq.mpr c29
                 clear c29
                 simp only [Option.some.injEq, Prod.mk.injEq] at H
                 obtain ⟨rfl, rfl, rfl⟩ := H
                 have p10 : 0 ≤ (x5_2 : Int) := of_decide_eq_true (by first | (with_reducible assumption) | assumption)
                 have q10 : x5_2 < (a0.size : Int) := of_decide_eq_true (by first | (with_reducible assumption) | assumption)
                 have hx10 := bt_at a0 x5_2
                 replace p10 := eq_true p10
                 replace q10 := eq_true q10
                 have p12 : 0 ≤ (x5_2 : Int) := of_decide_eq_true (by first | (with_reducible assumption) | assumption)
                 have q12 : x5_2 < (a0.size : Int) := of_decide_eq_true (by first | (with_reducible assumption) | assumption)
                 have hx12 := bt_at a0 x5_2
                 replace p12 := eq_true p12
                 replace q12 := eq_true q12
                 go_wp2
                 go_ret3
                 exact ⟨by first | rfl | (simp; done) | (simp [*]; done), by repeat (first | exact Drawn0.refl _ | apply Drawn0.step)⟩
                ·rw [if_neg c29] at H
                 have c29b0 : ((a0.extract (x5_2 : Int).toNat a0.size).toList == ([112, 97, 116, 104] : List UInt8)) = false := beq_eq_false_iff_ne.mpr c29
                 have c29b1 : ((a0.extract (x5_2 : Int).toNat a0.size).toList != ([112, 97, 116, 104] : List UInt8)) = true := bne_iff_ne.mpr c29
                 by_cases c30 : (a0.extract (x5_2 : Int).toNat a0.size).toList = ([110, 97, 109, 101, 115, 112, 97, 99, 101] : List UInt8)
                 ·rw [if_pos c30] at H
                  have c30b0 : ((a0.extract (x5_2 : Int).toNat a0.size).toList == ([110, 97, 109, 101, 115, 112, 97, 99, 101] : List UInt8)) = true := beq_iff_eq.mpr c30
                  have c30b1 : ((a0.extract (x5_2 : Int).toNat a0.size).toList != ([110, 97, 109, 101, 115, 112, 97, 99, 101] : List UInt8)) = false := bne_eq_false_iff_eq.mpr c30
                  clear c30
                  by_cases c31 : x6_2 = 0
                  ·rw [if_pos c31] at H
                   have c31b0 : (x6_2 == 0) = true := beq_iff_eq.mpr c31
                   have c31b1 : (x6_2 != 0) = false := bne_eq_false_iff_eq.mpr c31
                   clear c31
                   simp only [Option.some.injEq, Prod.mk.injEq] at H
                   obtain ⟨rfl, rfl, rfl⟩ := H
                   have p10 : 0 ≤ (x5_2 : Int) := of_decide_eq_true (by first | (with_reducible assumption) | assumption)
                   have q10 : x5_2 < (a0.size : Int) := of_decide_eq_true (by first | (with_reducible assumption) | assumption)
                   have hx10 := bt_at a0 x5_2
                   replace p10 := eq_true p10
                   replace q10 := eq_true q10
                   have p12 : 0 ≤ (x5_2 : Int) := of_decide_eq_true (by first | (with_reducible assumption) | assumption)
                   have q12 : x5_2 < (a0.size : Int) := of_decide_eq_true (by first | (with_reducible assumption) | assumption)
                   have hx12 := bt_at a0 x5_2
                   replace p12 := eq_true p12
                   replace q12 := eq_true q12
                   go_wp2
                   go_ret3
                   exact ⟨by first | rfl | (simp; done) | (simp [*]; done), by repeat (first | exact Drawn0.refl _ | apply Drawn0.step)⟩
                  ·rw [if_neg c31] at H
                   have c31b0 : (x6_2 == 0) = false := beq_eq_false_iff_ne.mpr c31
                   have c31b1 : (x6_2 != 0) = true := bne_iff_ne.mpr c31
                   simp only [Option.some.injEq, Prod.mk.injEq] at H
                   obtain ⟨rfl, rfl, rfl⟩ := H
                   have p10 : 0 ≤ (x5_2 : Int) := of_decide_eq_true (by first | (with_reducible assumption) | assumption)
                   have q10 : x5_2 < (a0.size : Int) := of_decide_eq_true (by first | (with_reducible assumption) | assumption)
                   have hx10 := bt_at a0 x5_2
                   replace p10 := eq_true p10
                   replace q10 := eq_true q10
                   have p12 : 0 ≤ (x5_2 : Int) := of_decide_eq_true (by first | (with_reducible assumption) | assumption)
                   have q12 : x5_2 < (a0.size : Int) := of_decide_eq_true (by first | (with_reducible assumption) | assumption)
                   have hx12 := bt_at a0 x5_2
                   replace p12 := eq_true p12
                   replace q12 := eq_true q12
                   go_wp2
                   go_ret3
                   exact ⟨by first | rfl | (simp; done) | (simp [*]; done), by repeat (first | exact Drawn0.refl _ | apply Drawn0.step)⟩
                 ·rw [if_neg c30] at H
                  have c30b0 : ((a0.extract (x5_2 : Int).toNat a0.size).toList == ([110, 97, 109, 101, 115, 112, 97, 99, 101] : List UInt8)) = false := beq_eq_false_iff_ne.mpr c30
                  have c30b1 : ((a0.extract (x5_2 : Int).toNat a0.size).toList != ([110, 97, 109, 101, 115, 112, 97, 99, 101] : List UInt8)) = true := bne_iff_ne.mpr c30
                  simp only [Option.some.injEq, Prod.mk.injEq] at H
                  obtain ⟨rfl, rfl, rfl⟩ := H
                  have p10 : 0 ≤ (x5_2 : Int) := of_decide_eq_true (by first | (with_reducible assumption) | assumption)
                  have q10 : x5_2 < (a0.size : Int) := of_decide_eq_true (by first | (with_reducible assumption) | assumption)
                  have hx10 := bt_at a0 x5_2
                  replace p10 := eq_true p10
                  replace q10 := eq_true q10
                  have p12 : 0 ≤ (x5_2 : Int) := of_decide_eq_true (by first | (with_reducible assumption) | assumption)
                  have q12 : x5_2 < (a0.size : Int) := of_decide_eq_true (by first | (with_reducible assumption) | assumption)
                  have hx12 := bt_at a0 x5_2
                  replace p12 := eq_true p12
                  replace q12 := eq_true q12
                  go_wp2
                  go_ret3
                  exact ⟨by first | rfl | (simp; done) | (simp [*]; done), by repeat (first | exact Drawn0.refl _ | apply Drawn0.step)⟩
           ·rw [if_neg c16] at H
            exact absurd H (by simp)
         ·rw [if_neg c11] at H
          have c11b0 : decide (48 ≤ (bt a0 x5_2)) = false := decide_eq_false c11
          clear c11
          have c32b0 := eq_true (of_decide_eq_true (by first | (with_reducible assumption) | assumption) : 0 ≤ x5_2)
          by_cases c33 : x5_2 ≤ (a0.size : Int)
          ·rw [if_pos c33] at H
           have c33b0 := eq_true c33
           have c33b1 : decide (x5_2 ≤ (a0.size : Int)) = true := decide_eq_true c33
           clear c33
           by_cases c34 : x5_2 = 3
           ·rw [if_pos c34] at H
            have c34b0 : (x5_2 == 3) = true := beq_iff_eq.mpr c34
            have c34b1 : (x5_2 != 3) = false := bne_eq_false_iff_eq.mpr c34
            clear c34
            simp only [Option.some.injEq, Prod.mk.injEq] at H
            obtain ⟨rfl, rfl, rfl⟩ := H
            have p10 : 0 ≤ (x5_2 : Int) := of_decide_eq_true (by first | (with_reducible assumption) | assumption)
            have q10 : x5_2 < (a0.size : Int) := of_decide_eq_true (by first | (with_reducible assumption) | assumption)
            have hx10 := bt_at a0 x5_2
            replace p10 := eq_true p10
            replace q10 := eq_true q10
            go_wp2
            go_ret3
            exact ⟨by first | rfl | (simp; done) | (simp [*]; done), by repeat (first | exact Drawn0.refl _ | apply Drawn0.step)⟩
           ·rw [if_neg c34] at H
            have c34b0 : (x5_2 == 3) = false := beq_eq_false_iff_ne.mpr c34
            have c34b1 : (x5_2 != 3) = true := bne_iff_ne.mpr c34
            by_cases c35 : x5_2 = 5
            ·rw [if_pos c35] at H
             have c35b0 : (x5_2 == 5) = true := beq_iff_eq.mpr c35
             have c35b1 : (x5_2 != 5) = false := bne_eq_false_iff_eq.mpr c35
             clear c35
             by_cases c36 : 3 < (a0.size : Int)
             ·rw [if_pos c36] at H
              have c36b0 : decide (3 < (a0.size : Int)) = true := decide_eq_true c36
              have c36b1 : decide (3 < a0.size) = true := decide_eq_true (by omega)
              clear c36
              by_cases c38 : (bt a0 3) = 48
              ·rw [if_pos c38] at H
               have c38b0 : ((bt a0 3) == 48) = true := beq_iff_eq.mpr c38
               have c38b1 : ((bt a0 3) != 48) = false := bne_eq_false_iff_eq.mpr c38
               clear c38
               simp only [Option.some.injEq, Prod.mk.injEq] at H
               obtain ⟨rfl, rfl, rfl⟩ := H
               have p10 : 0 ≤ (x5_2 : Int) := of_decide_eq_true (by first | (with_reducible assumption) | assumption)
               have q10 : x5_2 < (a0.size : Int) := of_decide_eq_true (by first | (with_reducible assumption) | assumption)
               have hx10 := bt_at a0 x5_2
               replace p10 := eq_true p10
               replace q10 := eq_true q10
               have p37 : 0 ≤ (3 : Int) := (by omega)
               have q37 : 3 < a0.size := (by have : (3 : Int) < (a0.size : Int) := of_decide_eq_true (by first | (with_reducible assumption) | assumption); omega)
               have hx37 : ∀ h : 3 < a0.size, ((a0[3]'h).toNat : Int) = bt a0 3 := bt_at a0 3
               clear p37
               have qi37 : (3 < (a0.size : Int)) = True := eq_true (of_decide_eq_true (by first | (with_reducible assumption) | assumption))
               replace q37 := eq_true q37
               go_wp2
               go_ret3
               exact ⟨by first | rfl | (simp; done) | (simp [*]; done), by repeat (first | exact Drawn0.refl _ | apply Drawn0.step)⟩
              ·rw [if_neg c38] at H
               have c38b0 : ((bt a0 3) == 48) = false := beq_eq_false_iff_ne.mpr c38
               have c38b1 : ((bt a0 3) != 48) = true := bne_iff_ne.mpr c38
               by_cases c39 : x6_2 > 63
               ·rw [if_pos c39] at H
                have c39b0 : decide (63 < x6_2) = true := decide_eq_true c39
                clear c39
                simp only [Option.some.injEq, Prod.mk.injEq] at H
                obtain ⟨rfl, rfl, rfl⟩ := H
                have p10 : 0 ≤ (x5_2 : Int) := of_decide_eq_true (by first | (with_reducible assumption) | assumption)
                have q10 : x5_2 < (a0.size : Int) := of_decide_eq_true (by first | (with_reducible assumption) | assumption)
                have hx10 := bt_at a0 x5_2
                replace p10 := eq_true p10
                replace q10 := eq_true q10
                have p37 : 0 ≤ (3 : Int) := (by omega)
                have q37 : 3 < a0.size := (by have : (3 : Int) < (a0.size : Int) := of_decide_eq_true (by first | (with_reducible assumption) | assumption); omega)
                have hx37 : ∀ h : 3 < a0.size, ((a0[3]'h).toNat : Int) = bt a0 3 := bt_at a0 3
                clear p37
                have qi37 : (3 < (a0.size : Int)) = True := eq_true (of_decide_eq_true (by first | (with_reducible assumption) | assumption))
                replace q37 := eq_true q37
                go_wp2
                go_ret3
                exact ⟨by first | rfl | (simp; done) | (simp [*]; done), by repeat (first | exact Drawn0.refl _ | apply Drawn0.step)⟩
               ·rw [if_neg c39] at H
                have c39b0 : decide (63 < x6_2) = false := decide_eq_false c39
                clear c39
                by_cases c40 : (a0.extract (x5_2 : Int).toNat a0.size).toList = ([] : List UInt8)
                ·rw [if_pos c40] at H
                 have c40b0 : ((a0.extract (x5_2 : Int).toNat a0.size).toList == ([] : List UInt8)) = true := beq_iff_eq.mpr c40
                 have c40b1 : ((a0.extract (x5_2 : Int).toNat a0.size).toList != ([] : List UInt8)) = false := bne_eq_false_iff_eq.mpr c40
                 clear c40
                 simp only [Option.some.injEq, Prod.mk.injEq] at H
                 obtain ⟨rfl, rfl, rfl⟩ := H
                 have p10 : 0 ≤ (x5_2 : Int) := of_decide_eq_true (by first | (with_reducible assumption) | assumption)
                 have q10 : x5_2 < (a0.size : Int) := of_decide_eq_true (by first | (with_reducible assumption) | assumption)
                 have hx10 := bt_at a0 x5_2
                 replace p10 := eq_true p10
                 replace q10 := eq_true q10
                 have p37 : 0 ≤ (3 : Int) := (by omega)
                 have q37 : 3 < a0.size := (by have : (3 : Int) < (a0.size : Int) := of_decide_eq_true (by first | (with_reducible assumption) | assumption); omega)
                 have hx37 : ∀ h : 3 < a0.size, ((a0[3]'h).toNat : Int) = bt a0 3 := bt_at a0 3
                 clear p37
                 have qi37 : (3 < (a0.size : Int)) = True := eq_true (of_decide_eq_true (by first | (with_reducible assumption) | assumption))
                 replace q37 := eq_true q37
                 go_wp2
                 go_ret3
                 exact ⟨by first | rfl | (simp; done) | (simp [*]; done), by repeat (first | exact Drawn0.refl _ | apply Drawn0.step)⟩
                ·rw [if_neg c40] at H
                 have c40b0 : ((a0.extract (x5_2 : Int).toNat a0.size).toList == ([] : List UInt8)) = false := beq_eq_false_iff_ne.mpr c40
                 have c40b1 : ((a0.extract (x5_2 : Int).toNat a0.size).toList != ([] : List UInt8)) = true := bne_iff_ne.mpr c40
                 by_cases c41 : (a0.extract (x5_2 : Int).toNat a0.size).toList = ([112, 97, 116, 104] : List UInt8)
                 ·rw [if_pos c41] at H
                  have c41b0 : ((a0.extract (x5_2 : Int).toNat a0.size).toList == ([112, 97, 116, 104] : List UInt8)) = true := beq_iff_eq.mpr c41
                  have c41b1 : ((a0.extract (x5_2 : Int).toNat a0.size).toList != ([112, 97, 116, 104] : List UInt8)) = false := bne_eq_false_iff_eq.mpr c41
                  clear c41
                  simp only [Option.some.injEq, Prod.mk.injEq] at H
                  obtain ⟨rfl, rfl, rfl⟩ := H
                  have p10 : 0 ≤ (x5_2 : Int) := of_decide_eq_true (by first | (with_reducible assumption) | assumption)
                  have q10 : x5_2 < (a0.size : Int) := of_decide_eq_true (by first | (with_reducible assumption) | assumption)
                  have hx10 := bt_at a0 x5_2
                  replace p10 := eq_true p10
                  replace q10 := eq_true q10
                  have p37 : 0 ≤ (3 : Int) := (by omega)
                  have q37 : 3 < a0.size := (by have : (3 : Int) < (a0.size : Int) := of_decide_eq_true (by first | (with_reducible assumption) | assumption); omega)
                  have hx37 : ∀ h : 3 < a0.size, ((a0[3]'h).toNat : Int) = bt a0 3 := bt_at a0 3
                  clear p37
                  have qi37 : (3 < (a0.size : Int)) = True := eq_true (of_decide_eq_true (by first | (with_reducible assumption) | assumption))
                  replace q37 := eq_true q37
                  go_wp2
                  go_ret3
                  exact ⟨by first | rfl | (simp; done) | (simp [*]; done), by repeat (first | exact Drawn0.refl _ | apply Drawn0.step)⟩
                 ·rw [if_neg c41] at H
                  have c41b0 : ((a0.extract (x5_2 : Int).toNat a0.size).toList == ([112, 97, 116, 104] : List UInt8)) = false := beq_eq_false_iff_ne.mpr c41
                  have c41b1 : ((a0.extract (x5_2 : Int).toNat a0.size).toList != ([112, 97, 116, 104] : List UInt8)) = true := bne_iff_ne.mpr c41
                  by_cases c42 : (a0.extract (x5_2 : Int).toNat a0.size).toList = ([110, 97, 109, 101, 115, 112, 97, 99, 101] : List UInt8)
                  ·rw [if_pos c42] at H
                   have c42b0 : ((a0.extract (x5_2 : Int).toNat a0.size).toList == ([110, 97, 109, 101, 115, 112, 97, 99, 101] : List UInt8)) = true := beq_iff_eq.mpr c42
                   have c42b1 : ((a0.extract (x5_2 : Int).toNat a0.size).toList != ([110, 97, 109, 101, 115, 112, 97, 99, 101] : List UInt8)) = false := bne_eq_false_iff_eq.mpr c42
                   clear c42
                   by_cases c43 : x6_2 = 0
                   ·rw [if_pos c43] at H
                    have c43b0 : (x6_2 == 0) = true := beq_iff_eq.mpr c43
                    have c43b1 : (x6_2 != 0) = false := bne_eq_false_iff_eq.mpr c43
                    clear c43
                    simp only [Option.some.injEq, Prod.mk.injEq] at H
                    obtain ⟨rfl, rfl, rfl⟩ := H
                    have p10 : 0 ≤ (x5_2 : Int) := of_decide_eq_true (by first | (with_reducible assumption) | assumption)
                    have q10 : x5_2 < (a0.size : Int) := of_decide_eq_true (by first | (with_reducible assumption) | assumption)
                    have hx10 := bt_at a0 x5_2
                    replace p10 := eq_true p10
                    replace q10 := eq_true q10
                    have p37 : 0 ≤ (3 : Int) := (by omega)
                    have q37 : 3 < a0.size := (by have : (3 : Int) < (a0.size : Int) := of_decide_eq_true (by first | (with_reducible assumption) | assumption); omega)
                    have hx37 : ∀ h : 3 < a0.size, ((a0[3]'h).toNat : Int) = bt a0 3 := bt_at a0 3
                    clear p37
                    have qi37 : (3 < (a0.size : Int)) = True := eq_true (of_decide_eq_true (by first | (with_reducible assumption) | assumption))
                    replace q37 := eq_true q37
                    go_wp2
                    go_ret3
                    exact ⟨by first | rfl | (simp; done) | (simp [*]; done), by repeat (first | exact Drawn0.refl _ | apply Drawn0.step)⟩
                   ·rw [if_neg c43] at H
                    have c43b0 : (x6_2 == 0) = false := beq_eq_false_iff_ne.mpr c43
                    have c43b1 : (x6_2 != 0) = true := bne_iff_ne.mpr c43
                    simp only [Option.some.injEq, Prod.mk.injEq] at H
                    obtain ⟨rfl, rfl, rfl⟩ := H
                    have p10 : 0 ≤ (x5_2 : Int) := of_decide_eq_true (by first | (with_reducible assumption) | assumption)
                    have q10 : x5_2 < (a0.size : Int) := of_decide_eq_true (by first | (with_reducible assumption) | assumption)
                    have hx10 := bt_at a0 x5_2
                    replace p10 := eq_true p10
                    replace q10 := eq_true q10
                    have p37 : 0 ≤ (3 : Int) := (by omega)
                    have q37 : 3 < a0.size := (by have : (3 : Int) < (a0.size : Int) := of_decide_eq_true (by first | (with_reducible assumption) | assumption); omega)
                    have hx37 : ∀ h : 3 < a0.size, ((a0[3]'h).toNat : Int) = bt a0 3 := bt_at a0 3
                    clear p37
                    have qi37 : (3 < (a0.size : Int)) = True := eq_true (of_decide_eq_true (by first | (with_reducible assumption) | assumption))
                    replace q37 := eq_true q37
                    go_wp2
                    go_ret3
                    exact ⟨by first | rfl | (simp; done) | (simp [*]; done), by repeat (first | exact Drawn0.refl _ | apply Drawn0.step)⟩
                  ·rw [if_neg c42] at H
                   have c42b0 : ((a0.extract (x5_2 : Int).toNat a0.size).toList == ([110, 97, 109, 101, 115, 112, 97, 99, 101] : List UInt8)) = false := beq_eq_false_iff_ne.mpr c42
                   have c42b1 : ((a0.extract (x5_2 : Int).toNat a0.size).toList != ([110, 97, 109, 101, 115, 112, 97, 99, 101] : List UInt8)) = true := bne_iff_ne.mpr c42
                   simp only [Option.some.injEq, Prod.mk.injEq] at H
                   obtain ⟨rfl, rfl, rfl⟩ := H
                   have p10 : 0 ≤ (x5_2 : Int) := of_decide_eq_true (by first | (with_reducible assumption) | assumption)
                   have q10 : x5_2 < (a0.size : Int) := of_decide_eq_true (by first | (with_reducible assumption) | assumption)
                   have hx10 := bt_at a0 x5_2
                   replace p10 := eq_true p10
                   replace q10 := eq_true q10
                   have p37 : 0 ≤ (3 : Int) := (by omega)
                   have q37 : 3 < a0.size := (by have : (3 : Int) < (a0.size : Int) := of_decide_eq_true (by first | (with_reducible assumption) | assumption); omega)
                   have hx37 : ∀ h : 3 < a0.size, ((a0[3]'h).toNat : Int) = bt a0 3 := bt_at a0 3
                   clear p37
                   have qi37 : (3 < (a0.size : Int)) = True := eq_true (of_decide_eq_true (by first | (with_reducible assumption) | assumption))
                   replace q37 := eq_true q37
                   go_wp2
                   go_ret3
                   exact ⟨by first | rfl | (simp; done) | (simp [*]; done), by repeat (first | exact Drawn0.refl _ | apply Drawn0.step)⟩
             ·rw [if_neg c36] at H
              exact absurd H (by simp)
            ·rw [if_neg c35] at H
             have c35b0 : (x5_2 == 5) = false := beq_eq_false_iff_ne.mpr c35
             have c35b1 : (x5_2 != 5) = true := bne_iff_ne.mpr c35
             by_cases c44 : x6_2 > 63
             ·rw [if_pos c44] at H
              have c44b0 : decide (63 < x6_2) = true := decide_eq_true c44
              clear c44
              simp only [Option.some.injEq, Prod.mk.injEq] at H
              obtain ⟨rfl, rfl, rfl⟩ := H
              have p10 : 0 ≤ (x5_2 : Int) := of_decide_eq_true (by first | (with_reducible assumption) | assumption)
              have q10 : x5_2 < (a0.size : Int) := of_decide_eq_true (by first | (with_reducible assumption) | assumption)
              have hx10 := bt_at a0 x5_2
              replace p10 := eq_true p10
              replace q10 := eq_true q10
              go_wp2
              go_ret3
              exact ⟨by first | rfl | (simp; done) | (simp [*]; done), by repeat (first | exact Drawn0.refl _ | apply Drawn0.step)⟩
             ·rw [if_neg c44] at H
              have c44b0 : decide (63 < x6_2) = false := decide_eq_false c44
              clear c44
              by_cases c45 : (a0.extract (x5_2 : Int).toNat a0.size).toList = ([] : List UInt8)
              ·rw [if_pos c45] at H
               have c45b0 : ((a0.extract (x5_2 : Int).toNat a0.size).toList == ([] : List UInt8)) = true := beq_iff_eq.mpr c45
               have c45b1 : ((a0.extract (x5_2 : Int).toNat a0.size).toList != ([] : List UInt8)) = false := bne_eq_false_iff_eq.mpr c45
               clear c45
               simp only [Option.some.injEq, Prod.mk.injEq] at H
               obtain ⟨rfl, rfl, rfl⟩ := H
               have p10 : 0 ≤ (x5_2 : Int) := of_decide_eq_true (by first | (with_reducible assumption) | assumption)
               have q10 : x5_2 < (a0.size : Int) := of_decide_eq_true (by first | (with_reducible assumption) | assumption)
               have hx10 := bt_at a0 x5_2
               replace p10 := eq_true p10
               replace q10 := eq_true q10
               go_wp2
               go_ret3
               exact ⟨by first | rfl | (simp; done) | (simp [*]; done), by repeat (first | exact Drawn0.refl _ | apply Drawn0.step)⟩
              ·rw [if_neg c45] at H
               have c45b0 : ((a0.extract (x5_2 : Int).toNat a0.size).toList == ([] : List UInt8)) = false := beq_eq_false_iff_ne.mpr c45
               have c45b1 : ((a0.extract (x5_2 : Int).toNat a0.size).toList != ([] : List UInt8)) = true := bne_iff_ne.mpr c45
               by_cases c46 : (a0.extract (x5_2 : Int).toNat a0.size).toList = ([112, 97, 116, 104] : List UInt8)
               ·rw [if_pos c46] at H
                have c46b0 : ((a0.extract (x5_2 : Int).toNat a0.size).toList == ([112, 97, 116, 104] : List UInt8)) = true := beq_iff_eq.mpr c46
                have c46b1 : ((a0.extract (x5_2 : Int).toNat a0.size).toList != ([112, 97, 116, 104] : List UInt8)) = false := bne_eq_false_iff_eq.mpr c46
                clear c46
                simp only [Option.some.injEq, Prod.mk.injEq] at H
                obtain ⟨rfl, rfl, rfl⟩ := H
                have p10 : 0 ≤ (x5_2 : Int) := of_decide_eq_true (by first | (with_reducible assumption) | assumption)
                have q10 : x5_2 < (a0.size : Int) := of_decide_eq_true (by first | (with_reducible assumption) | assumption)
                have hx10 := bt_at a0 x5_2
                replace p10 := eq_true p10
                replace q10 := eq_true q10
                go_wp2
                go_ret3
                exact ⟨by first | rfl | (simp; done) | (simp [*]; done), by repeat (first | exact Drawn0.refl _ | apply Drawn0.step)⟩
               ·rw [if_neg c46] at H
                have c46b0 : ((a0.extract (x5_2 : Int).toNat a0.size).toList == ([112, 97, 116, 104] : List UInt8)) = false := beq_eq_false_iff_ne.mpr c46
                have c46b1 : ((a0.extract (x5_2 : Int).toNat a0.size).toList != ([112, 97, 116, 104] : List UInt8)) = true := bne_iff_ne.mpr c46
                by_cases c47 : (a0.extract (x5_2 : Int).toNat a0.size).toList = ([110, 97, 109, 101, 115, 112, 97, 99, 101] : List UInt8)
                ·rw [if_pos c47] at H
                 have c47b0 : ((a0.extract (x5_2 : Int).toNat a0.size).toList == ([110, 97, 109, 101, 115, 112, 97, 99, 101] : List UInt8)) = true := beq_iff_eq.mpr c47
                 have c47b1 : ((a0.extract (x5_2 : Int).toNat a0.size).toList != ([110, 97, 109, 101, 115, 112, 97, 99, 101] : List UInt8)) = false := bne_eq_false_iff_eq.mpr c47
                 clear c47
                 by_cases c48 : x6_2 = 0
                 ·rw [if_pos c48] at H
                  have c48b0 : (x6_2 == 0) = true := beq_iff_eq.mpr c48
                  have c48b1 : (x6_2 != 0) = false := bne_eq_false_iff_eq.mpr c48
                  clear c48
                  simp only [Option.some.injEq, Prod.mk.injEq] at H
                  obtain ⟨rfl, rfl, rfl⟩ := H
                  have p10 : 0 ≤ (x5_2 : Int) := of_decide_eq_true (by first | (with_reducible assumption) | assumption)
                  have q10 : x5_2 < (a0.size : Int) := of_decide_eq_true (by first | (with_reducible assumption) | assumption)
                  have hx10 := bt_at a0 x5_2
                  replace p10 := eq_true p10
                  replace q10 := eq_true q10
                  go_wp2
                  go_ret3
                  exact ⟨by first | rfl | (simp; done) | (simp [*]; done), by repeat (first | exact Drawn0.refl _ | apply Drawn0.step)⟩
                 ·rw [if_neg c48] at H
                  have c48b0 : (x6_2 == 0) = false := beq_eq_false_iff_ne.mpr c48
                  have c48b1 : (x6_2 != 0) = true := bne_iff_ne.mpr c48
                  simp only [Option.some.injEq, Prod.mk.injEq] at H
                  obtain ⟨rfl, rfl, rfl⟩ := H
                  have p10 : 0 ≤ (x5_2 : Int) := of_decide_eq_true (by first | (with_reducible assumption) | assumption)
                  have q10 : x5_2 < (a0.size : Int) := of_decide_eq_true (by first | (with_reducible assumption) | assumption)
                  have hx10 := bt_at a0 x5_2
                  replace p10 := eq_true p10
                  replace q10 := eq_true q10
                  go_wp2
                  go_ret3
                  exact ⟨by first | rfl | (simp; done) | (simp [*]; done), by repeat (first | exact Drawn0.refl _ | apply Drawn0.step)⟩
                ·rw [if_neg c47] at H
                 have c47b0 : ((a0.extract (x5_2 : Int).toNat a0.size).toList == ([110, 97, 109, 101, 115, 112, 97, 99, 101] : List UInt8)) = false := beq_eq_false_iff_ne.mpr c47
                 have c47b1 : ((a0.extract (x5_2 : Int).toNat a0.size).toList != ([110, 97, 109, 101, 115, 112, 97, 99, 101] : List UInt8)) = true := bne_iff_ne.mpr c47
                 simp only [Option.some.injEq, Prod.mk.injEq] at H
                 obtain ⟨rfl, rfl, rfl⟩ := H
                 have p10 : 0 ≤ (x5_2 : Int) := of_decide_eq_true (by first | (with_reducible assumption) | assumption)
                 have q10 : x5_2 < (a0.size : Int) := of_decide_eq_true (by first | (with_reducible assumption) | assumption)
                 have hx10 := bt_at a0 x5_2
                 replace p10 := eq_true p10
                 replace q10 := eq_true q10
                 go_wp2
                 go_ret3
                 exact ⟨by first | rfl | (simp; done) | (simp [*]; done), by repeat (first | exact Drawn0.refl _ | apply Drawn0.step)⟩
          ·rw [if_neg c33] at H
           exact absurd H (by simp)
        ·rw [if_neg c9] at H
         exact absurd H (by simp)
       ·rw [if_neg c8] at H
        have c8b0 : decide (x5_2 < 5) = false := decide_eq_false c8
        clear c8
        by_cases c49 : 0 ≤ x5_2
        ·rw [if_pos c49] at H
         have c49b0 := eq_true c49
         have c49b1 : decide (0 ≤ x5_2) = true := decide_eq_true c49
         clear c49
         by_cases c50 : x5_2 ≤ (a0.size : Int)
         ·rw [if_pos c50] at H
          have c50b0 := eq_true c50
          have c50b1 : decide (x5_2 ≤ (a0.size : Int)) = true := decide_eq_true c50
          clear c50
          by_cases c51 : x5_2 = 3
          ·rw [if_pos c51] at H
           have c51b0 : (x5_2 == 3) = true := beq_iff_eq.mpr c51
           have c51b1 : (x5_2 != 3) = false := bne_eq_false_iff_eq.mpr c51
           clear c51
           simp only [Option.some.injEq, Prod.mk.injEq] at H
           obtain ⟨rfl, rfl, rfl⟩ := H
           go_wp2
           go_ret3
           exact ⟨by first | rfl | (simp; done) | (simp [*]; done), by repeat (first | exact Drawn0.refl _ | apply Drawn0.step)⟩
          ·rw [if_neg c51] at H
           have c51b0 : (x5_2 == 3) = false := beq_eq_false_iff_ne.mpr c51
           have c51b1 : (x5_2 != 3) = true := bne_iff_ne.mpr c51
           by_cases c52 : x5_2 = 5
           ·rw [if_pos c52] at H
            have c52b0 : (x5_2 == 5) = true := beq_iff_eq.mpr c52
            have c52b1 : (x5_2 != 5) = false := bne_eq_false_iff_eq.mpr c52
            clear c52
            by_cases c53 : 3 < (a0.size : Int)
            ·rw [if_pos c53] at H
             have c53b0 : decide (3 < (a0.size : Int)) = true := decide_eq_true c53
             have c53b1 : decide (3 < a0.size) = true := decide_eq_true (by omega)
             clear c53
             by_cases c55 : (bt a0 3) = 48
             ·rw [if_pos c55] at H
              have c55b0 : ((bt a0 3) == 48) = true := beq_iff_eq.mpr c55
              have c55b1 : ((bt a0 3) != 48) = false := bne_eq_false_iff_eq.mpr c55
              clear c55
              simp only [Option.some.injEq, Prod.mk.injEq] at H
              obtain ⟨rfl, rfl, rfl⟩ := H
              have p54 : 0 ≤ (3 : Int) := (by omega)
              have q54 : 3 < a0.size := (by have : (3 : Int) < (a0.size : Int) := of_decide_eq_true (by first | (with_reducible assumption) | assumption); omega)
              have hx54 : ∀ h : 3 < a0.size, ((a0[3]'h).toNat : Int) = bt a0 3 := bt_at a0 3
              clear p54
              have qi54 : (3 < (a0.size : Int)) = True := eq_true (of_decide_eq_true (by first | (with_reducible assumption) | assumption))
              replace q54 := eq_true q54
              go_wp2
              go_ret3
              exact ⟨by first | rfl | (simp; done) | (simp [*]; done), by repeat (first | exact Drawn0.refl _ | apply Drawn0.step)⟩
             ·rw [if_neg c55] at H
              have c55b0 : ((bt a0 3) == 48) = false := beq_eq_false_iff_ne.mpr c55
              have c55b1 : ((bt a0 3) != 48) = true := bne_iff_ne.mpr c55
              by_cases c56 : x6_2 > 63
              ·rw [if_pos c56] at H
               have c56b0 : decide (63 < x6_2) = true := decide_eq_true c56
               clear c56
               simp only [Option.some.injEq, Prod.mk.injEq] at H
               obtain ⟨rfl, rfl, rfl⟩ := H
               have p54 : 0 ≤ (3 : Int) := (by omega)
               have q54 : 3 < a0.size := (by have : (3 : Int) < (a0.size : Int) := of_decide_eq_true (by first | (with_reducible assumption) | assumption); omega)
               have hx54 : ∀ h : 3 < a0.size, ((a0[3]'h).toNat : Int) = bt a0 3 := bt_at a0 3
               clear p54
               have qi54 : (3 < (a0.size : Int)) = True := eq_true (of_decide_eq_true (by first | (with_reducible assumption) | assumption))
               replace q54 := eq_true q54
               go_wp2
               go_ret3
               exact ⟨by first | rfl | (simp; done) | (simp [*]; done), by repeat (first | exact Drawn0.refl _ | apply Drawn0.step)⟩
              ·rw [if_neg c56] at H
               have c56b0 : decide (63 < x6_2) = false := decide_eq_false c56
               clear c56
               by_cases c57 : (a0.extract (x5_2 : Int).toNat a0.size).toList = ([] : List UInt8)
               ·rw [if_pos c57] at H
                have c57b0 : ((a0.extract (x5_2 : Int).toNat a0.size).toList == ([] : List UInt8)) = true := beq_iff_eq.mpr c57
                have c57b1 : ((a0.extract (x5_2 : Int).toNat a0.size).toList != ([] : List UInt8)) = false := bne_eq_false_iff_eq.mpr c57
                clear c57
                simp only [Option.some.injEq, Prod.mk.injEq] at H
                obtain ⟨rfl, rfl, rfl⟩ := H
                have p54 : 0 ≤ (3 : Int) := (by omega)
                have q54 : 3 < a0.size := (by have : (3 : Int) < (a0.size : Int) := of_decide_eq_true (by first | (with_reducible assumption) | assumption); omega)
                have hx54 : ∀ h : 3 < a0.size, ((a0[3]'h).toNat : Int) = bt a0 3 := bt_at a0 3
                clear p54
                have qi54 : (3 < (a0.size : Int)) = True := eq_true (of_decide_eq_true (by first | (with_reducible assumption) | assumption))
                replace q54 := eq_true q54
                go_wp2
                go_ret3
                exact ⟨by first | rfl | (simp; done) | (simp [*]; done), by repeat (first | exact Drawn0.refl _ | apply Drawn0.step)⟩
               ·rw [if_neg c57] at H
                have c57b0 : ((a0.extract (x5_2 : Int).toNat a0.size).toList == ([] : List UInt8)) = false := beq_eq_false_iff_ne.mpr c57
                have c57b1 : ((a0.extract (x5_2 : Int).toNat a0.size).toList != ([] : List UInt8)) = true := bne_iff_ne.mpr c57
                by_cases c58 : (a0.extract (x5_2 : Int).toNat a0.size).toList = ([112, 97, 116, 104] : List UInt8)
                ·rw [if_pos c58] at H
                 have c58b0 : ((a0.extract (x5_2 : Int).toNat a0.size).toList == ([112, 97, 116, 104] : List UInt8)) = true := beq_iff_eq.mpr c58
                 have c58b1 : ((a0.extract (x5_2 : Int).toNat a0.size).toList != ([112, 97, 116, 104] : List UInt8)) = false := bne_eq_false_iff_eq.mpr c58
                 clear c58
                 simp only [Option.some.injEq, Prod.mk.injEq] at H
                 obtain ⟨rfl, rfl, rfl⟩ := H
                 have p54 : 0 ≤ (3 : Int) := (by omega)
                 have q54 : 3 < a0.size := (by have : (3 : Int) < (a0.size : Int) := of_decide_eq_true (by first | (with_reducible assumption) | assumption); omega)
                 have hx54 : ∀ h : 3 < a0.size, ((a0[3]'h).toNat : Int) = bt a0 3 := bt_at a0 3
                 clear p54
                 have qi54 : (3 < (a0.size : Int)) = True := eq_true (of_decide_eq_true (by first | (with_reducible assumption) | assumption))
                 replace q54 := eq_true q54
                 go_wp2
                 go_ret3
                 exact ⟨by first | rfl | (simp; done) | (simp [*]; done), by repeat (first | exact Drawn0.refl _ | apply Drawn0.step)⟩
                ·rw [if_neg c58] at H
                 have c58b0 : ((a0.extract (x5_2 : Int).toNat a0.size).toList == ([112, 97, 116, 104] : List UInt8)) = false := beq_eq_false_iff_ne.mpr c58
                 have c58b1 : ((a0.extract (x5_2 : Int).toNat a0.size).toList != ([112, 97, 116, 104] : List UInt8)) = true := bne_iff_ne.mpr c58
                 by_cases c59 : (a0.extract (x5_2 : Int).toNat a0.size).toList = ([110, 97, 109, 101, 115, 112, 97, 99, 101] : List UInt8)
                 ·rw [if_pos c59] at H
                  have c59b0 : ((a0.extract (x5_2 : Int).toNat a0.size).toList == ([110, 97, 109, 101, 115, 112, 97, 99, 101] : List UInt8)) = true := beq_iff_eq.mpr c59
                  have c59b1 : ((a0.extract (x5_2 : Int).toNat a0.size).toList != ([110, 97, 109, 101, 115, 112, 97, 99, 101] : List UInt8)) = false := bne_eq_false_iff_eq.mpr c59
                  clear c59
                  by_cases c60 : x6_2 = 0
                  ·rw [if_pos c60] at H
                   have c60b0 : (x6_2 == 0) = true := beq_iff_eq.mpr c60
                   have c60b1 : (x6_2 != 0) = false := bne_eq_false_iff_eq.mpr c60
                   clear c60
                   simp only [Option.some.injEq, Prod.mk.injEq] at H
                   obtain ⟨rfl, rfl, rfl⟩ := H
                   have p54 : 0 ≤ (3 : Int) := (by omega)
                   have q54 : 3 < a0.size := (by have : (3 : Int) < (a0.size : Int) := of_decide_eq_true (by first | (with_reducible assumption) | assumption); omega)
                   have hx54 : ∀ h : 3 < a0.size, ((a0[3]'h).toNat : Int) = bt a0 3 := bt_at a0 3
                   clear p54
                   have qi54 : (3 < (a0.size : Int)) = True := eq_true (of_decide_eq_true (by first | (with_reducible assumption) | assumption))
                   replace q54 := eq_true q54
                   go_wp2
                   go_ret3
                   exact ⟨by first | rfl | (simp; done) | (simp [*]; done), by repeat (first | exact Drawn0.refl _ | apply Drawn0.step)⟩
                  ·rw [if_neg c60] at H
                   have c60b0 : (x6_2 == 0) = false := beq_eq_false_iff_ne.mpr c60
                   have c60b1 : (x6_2 != 0) = true := bne_iff_ne.mpr c60
                   simp only [Option.some.injEq, Prod.mk.injEq] at H
                   obtain ⟨rfl, rfl, rfl⟩ := H
                   have p54 : 0 ≤ (3 : Int) := (by omega)
                   have q54 : 3 < a0.size := (by have : (3 : Int) < (a0.size : Int) := of_decide_eq_true (by first | (with_reducible assumption) | assumption); omega)
                   have hx54 : ∀ h : 3 < a0.size, ((a0[3]'h).toNat : Int) = bt a0 3 := bt_at a0 3
                   clear p54
                   have qi54 : (3 < (a0.size : Int)) = True := eq_true (of_decide_eq_true (by first | (with_reducible assumption) | assumption))
                   replace q54 := eq_true q54
                   go_wp2
                   go_ret3
                   exact ⟨by first | rfl | (simp; done) | (simp [*]; done), by repeat (first | exact Drawn0.refl _ | apply Drawn0.step)⟩
                 ·rw [if_neg c59] at H
                  have c59b0 : ((a0.extract (x5_2 : Int).toNat a0.size).toList == ([110, 97, 109, 101, 115, 112, 97, 99, 101] : List UInt8)) = false := beq_eq_false_iff_ne.mpr c59
                  have c59b1 : ((a0.extract (x5_2 : Int).toNat a0.size).toList != ([110, 97, 109, 101, 115, 112, 97, 99, 101] : List UInt8)) = true := bne_iff_ne.mpr c59
                  simp only [Option.some.injEq, Prod.mk.injEq] at H
                  obtain ⟨rfl, rfl, rfl⟩ := H
                  have p54 : 0 ≤ (3 : Int) := (by omega)
                  have q54 : 3 < a0.size := (by have : (3 : Int) < (a0.size : Int) := of_decide_eq_true (by first | (with_reducible assumption) | assumption); omega)
                  have hx54 : ∀ h : 3 < a0.size, ((a0[3]'h).toNat : Int) = bt a0 3 := bt_at a0 3
                  clear p54
                  have qi54 : (3 < (a0.size : Int)) = True := eq_true (of_decide_eq_true (by first | (with_reducible assumption) | assumption))
                  replace q54 := eq_true q54
                  go_wp2
                  go_ret3
                  exact ⟨by first | rfl | (simp; done) | (simp [*]; done), by repeat (first | exact Drawn0.refl _ | apply Drawn0.step)⟩
            ·rw [if_neg c53] at H
             exact absurd H (by simp)
           ·rw [if_neg c52] at H
            have c52b0 : (x5_2 == 5) = false := beq_eq_false_iff_ne.mpr c52
            have c52b1 : (x5_2 != 5) = true := bne_iff_ne.mpr c52
            by_cases c61 : x6_2 > 63
            ·rw [if_pos c61] at H
             have c61b0 : decide (63 < x6_2) = true := decide_eq_true c61
             clear c61
             simp only [Option.some.injEq, Prod.mk.injEq] at H
             obtain ⟨rfl, rfl, rfl⟩ := H
             go_wp2
             go_ret3
             exact ⟨by first | rfl | (simp; done) | (simp [*]; done), by repeat (first | exact Drawn0.refl _ | apply Drawn0.step)⟩
            ·rw [if_neg c61] at H
             have c61b0 : decide (63 < x6_2) = false := decide_eq_false c61
             clear c61
             by_cases c62 : (a0.extract (x5_2 : Int).toNat a0.size).toList = ([] : List UInt8)
             ·rw [if_pos c62] at H
              have c62b0 : ((a0.extract (x5_2 : Int).toNat a0.size).toList == ([] : List UInt8)) = true := beq_iff_eq.mpr c62
              have c62b1 : ((a0.extract (x5_2 : Int).toNat a0.size).toList != ([] : List UInt8)) = false := bne_eq_false_iff_eq.mpr c62
              clear c62
              simp only [Option.some.injEq, Prod.mk.injEq] at H
              obtain ⟨rfl, rfl, rfl⟩ := H
              go_wp2
              go_ret3
              exact ⟨by first | rfl | (simp; done) | (simp [*]; done), by repeat (first | exact Drawn0.refl _ | apply Drawn0.step)⟩
             ·rw [if_neg c62] at H
              have c62b0 : ((a0.extract (x5_2 : Int).toNat a0.size).toList == ([] : List UInt8)) = false := beq_eq_false_iff_ne.mpr c62
              have c62b1 : ((a0.extract (x5_2 : Int).toNat a0.size).toList != ([] : List UInt8)) = true := bne_iff_ne.mpr c62
              by_cases c63 : (a0.extract (x5_2 : Int).toNat a0.size).toList = ([112, 97, 116, 104] : List UInt8)
              ·rw [if_pos c63] at H
               have c63b0 : ((a0.extract (x5_2 : Int).toNat a0.size).toList == ([112, 97, 116, 104] : List UInt8)) = true := beq_iff_eq.mpr c63
               have c63b1 : ((a0.extract (x5_2 : Int).toNat a0.size).toList != ([112, 97, 116, 104] : List UInt8)) = false := bne_eq_false_iff_eq.mpr c63
               clear c63
               simp only [Option.some.injEq, Prod.mk.injEq] at H
               obtain ⟨rfl, rfl, rfl⟩ := H
               go_wp2
               go_ret3
               exact ⟨by first | rfl | (simp; done) | (simp [*]; done), by repeat (first | exact Drawn0.refl _ | apply Drawn0.step)⟩
              ·rw [if_neg c63] at H
               have c63b0 : ((a0.extract (x5_2 : Int).toNat a0.size).toList == ([112, 97, 116, 104] : List UInt8)) = false := beq_eq_false_iff_ne.mpr c63
               have c63b1 : ((a0.extract (x5_2 : Int).toNat a0.size).toList != ([112, 97, 116, 104] : List UInt8)) = true := bne_iff_ne.mpr c63
               by_cases c64 : (a0.extract (x5_2 : Int).toNat a0.size).toList = ([110, 97, 109, 101, 115, 112, 97, 99, 101] : List UInt8)
               ·rw [if_pos c64] at H
                have c64b0 : ((a0.extract (x5_2 : Int).toNat a0.size).toList == ([110, 97, 109, 101, 115, 112, 97, 99, 101] : List UInt8)) = true := beq_iff_eq.mpr c64
                have c64b1 : ((a0.extract (x5_2 : Int).toNat a0.size).toList != ([110, 97, 109, 101, 115, 112, 97, 99, 101] : List UInt8)) = false := bne_eq_false_iff_eq.mpr c64
                clear c64
                by_cases c65 : x6_2 = 0
                ·rw [if_pos c65] at H
                 have c65b0 : (x6_2 == 0) = true := beq_iff_eq.mpr c65
                 have c65b1 : (x6_2 != 0) = false := bne_eq_false_iff_eq.mpr c65
                 clear c65
                 simp only [Option.some.injEq, Prod.mk.injEq] at H
                 obtain ⟨rfl, rfl, rfl⟩ := H
                 go_wp2
                 go_ret3
                 exact ⟨by first | rfl | (simp; done) | (simp [*]; done), by repeat (first | exact Drawn0.refl _ | apply Drawn0.step)⟩
                ·rw [if_neg c65] at H
                 have c65b0 : (x6_2 == 0) = false := beq_eq_false_iff_ne.mpr c65
                 have c65b1 : (x6_2 != 0) = true := bne_iff_ne.mpr c65
                 simp only [Option.some.injEq, Prod.mk.injEq] at H
                 obtain ⟨rfl, rfl, rfl⟩ := H
                 go_wp2
                 go_ret3
                 exact ⟨by first | rfl | (simp; done) | (simp [*]; done), by repeat (first | exact Drawn0.refl _ | apply Drawn0.step)⟩
               ·rw [if_neg c64] at H
                have c64b0 : ((a0.extract (x5_2 : Int).toNat a0.size).toList == ([110, 97, 109, 101, 115, 112, 97, 99, 101] : List UInt8)) = false := beq_eq_false_iff_ne.mpr c64
                have c64b1 : ((a0.extract (x5_2 : Int).toNat a0.size).toList != ([110, 97, 109, 101, 115, 112, 97, 99, 101] : List UInt8)) = true := bne_iff_ne.mpr c64
                simp only [Option.some.injEq, Prod.mk.injEq] at H
                obtain ⟨rfl, rfl, rfl⟩ := H
                go_wp2
                go_ret3
                exact ⟨by first | rfl | (simp; done) | (simp [*]; done), by repeat (first | exact Drawn0.refl _ | apply Drawn0.step)⟩
         ·rw [if_neg c50] at H
          exact absurd H (by simp)
        ·rw [if_neg c49] at H
         exact absurd H (by simp)
      ·rw [if_neg c7] at H
       have c7b0 : decide (x5_2 < (a0.size : Int)) = false := decide_eq_false c7
       clear c7
       by_cases c66 : 0 ≤ x5_2
       ·rw [if_pos c66] at H
        have c66b0 := eq_true c66
        have c66b1 : decide (0 ≤ x5_2) = true := decide_eq_true c66
        clear c66
        by_cases c67 : x5_2 ≤ (a0.size : Int)
        ·rw [if_pos c67] at H
         have c67b0 := eq_true c67
         have c67b1 : decide (x5_2 ≤ (a0.size : Int)) = true := decide_eq_true c67
         clear c67
         by_cases c68 : x5_2 = 3
         ·rw [if_pos c68] at H
          have c68b0 : (x5_2 == 3) = true := beq_iff_eq.mpr c68
          have c68b1 : (x5_2 != 3) = false := bne_eq_false_iff_eq.mpr c68
          clear c68
          simp only [Option.some.injEq, Prod.mk.injEq] at H
          obtain ⟨rfl, rfl, rfl⟩ := H
          go_wp2
          go_ret3
          exact ⟨by first | rfl | (simp; done) | (simp [*]; done), by repeat (first | exact Drawn0.refl _ | apply Drawn0.step)⟩
         ·rw [if_neg c68] at H
          have c68b0 : (x5_2 == 3) = false := beq_eq_false_iff_ne.mpr c68
          have c68b1 : (x5_2 != 3) = true := bne_iff_ne.mpr c68
          by_cases c69 : x5_2 = 5
          ·rw [if_pos c69] at H
           have c69b0 : (x5_2 == 5) = true := beq_iff_eq.mpr c69
           have c69b1 : (x5_2 != 5) = false := bne_eq_false_iff_eq.mpr c69
           clear c69
           by_cases c70 : 3 < (a0.size : Int)
           ·rw [if_pos c70] at H
            have c70b0 : decide (3 < (a0.size : Int)) = true := decide_eq_true c70
            have c70b1 : decide (3 < a0.size) = true := decide_eq_true (by omega)
            clear c70
            by_cases c72 : (bt a0 3) = 48
            ·rw [if_pos c72] at H
             have c72b0 : ((bt a0 3) == 48) = true := beq_iff_eq.mpr c72
             have c72b1 : ((bt a0 3) != 48) = false := bne_eq_false_iff_eq.mpr c72
             clear c72
             simp only [Option.some.injEq, Prod.mk.injEq] at H
             obtain ⟨rfl, rfl, rfl⟩ := H
             have p71 : 0 ≤ (3 : Int) := (by omega)
             have q71 : 3 < a0.size := (by have : (3 : Int) < (a0.size : Int) := of_decide_eq_true (by first | (with_reducible assumption) | assumption); omega)
             have hx71 : ∀ h : 3 < a0.size, ((a0[3]'h).toNat : Int) = bt a0 3 := bt_at a0 3
             clear p71
             have qi71 : (3 < (a0.size : Int)) = True := eq_true (of_decide_eq_true (by first | (with_reducible assumption) | assumption))
             replace q71 := eq_true q71
             go_wp2
             go_ret3
             exact ⟨by first | rfl | (simp; done) | (simp [*]; done), by repeat (first | exact Drawn0.refl _ | apply Drawn0.step)⟩
            ·rw [if_neg c72] at H
             have c72b0 : ((bt a0 3) == 48) = false := beq_eq_false_iff_ne.mpr c72
             have c72b1 : ((bt a0 3) != 48) = true := bne_iff_ne.mpr c72
             by_cases c73 : x6_2 > 63
             ·rw [if_pos c73] at H
              have c73b0 : decide (63 < x6_2) = true := decide_eq_true c73
              clear c73
              simp only [Option.some.injEq, Prod.mk.injEq] at H
              obtain ⟨rfl, rfl, rfl⟩ := H
              have p71 : 0 ≤ (3 : Int) := (by omega)
              have q71 : 3 < a0.size := (by have : (3 : Int) < (a0.size : Int) := of_decide_eq_true (by first | (with_reducible assumption) | assumption); omega)
              have hx71 : ∀ h : 3 < a0.size, ((a0[3]'h).toNat : Int) = bt a0 3 := bt_at a0 3
              clear p71
              have qi71 : (3 < (a0.size : Int)) = True := eq_true (of_decide_eq_true (by first | (with_reducible assumption) | assumption))
              replace q71 := eq_true q71
              go_wp2
              go_ret3
              exact ⟨by first | rfl | (simp; done) | (simp [*]; done), by repeat (first | exact Drawn0.refl _ | apply Drawn0.step)⟩
             ·rw [if_neg c73] at H
              have c73b0 : decide (63 < x6_2) = false := decide_eq_false c73
              clear c73
              by_cases c74 : (a0.extract (x5_2 : Int).toNat a0.size).toList = ([] : List UInt8)
              ·rw [if_pos c74] at H
               have c74b0 : ((a0.extract (x5_2 : Int).toNat a0.size).toList == ([] : List UInt8)) = true := beq_iff_eq.mpr c74
               have c74b1 : ((a0.extract (x5_2 : Int).toNat a0.size).toList != ([] : List UInt8)) = false := bne_eq_false_iff_eq.mpr c74
               clear c74
               simp only [Option.some.injEq, Prod.mk.injEq] at H
               obtain ⟨rfl, rfl, rfl⟩ := H
               have p71 : 0 ≤ (3 : Int) := (by omega)
               have q71 : 3 < a0.size := (by have : (3 : Int) < (a0.size : Int) := of_decide_eq_true (by first | (with_reducible assumption) | assumption); omega)
               have hx71 : ∀ h : 3 < a0.size, ((a0[3]'h).toNat : Int) = bt a0 3 := bt_at a0 3
               clear p71
               have qi71 : (3 < (a0.size : Int)) = True := eq_true (of_decide_eq_true (by first | (with_reducible assumption) | assumption))
               replace q71 := eq_true q71
               go_wp2
               go_ret3
               exact ⟨by first | rfl | (simp; done) | (simp [*]; done), by repeat (first | exact Drawn0.refl _ | apply Drawn0.step)⟩
              ·rw [if_neg c74] at H
               have c74b0 : ((a0.extract (x5_2 : Int).toNat a0.size).toList == ([] : List UInt8)) = false := beq_eq_false_iff_ne.mpr c74
               have c74b1 : ((a0.extract (x5_2 : Int).toNat a0.size).toList != ([] : List UInt8)) = true := bne_iff_ne.mpr c74
               by_cases c75 : (a0.extract (x5_2 : Int).toNat a0.size).toList = ([112, 97, 116, 104] : List UInt8)
               ·rw [if_pos c75] at H
                have c75b0 : ((a0.extract (x5_2 : Int).toNat a0.size).toList == ([112, 97, 116, 104] : List UInt8)) = true := beq_iff_eq.mpr c75
                have c75b1 : ((a0.extract (x5_2 : Int).toNat a0.size).toList != ([112, 97, 116, 104] : List UInt8)) = false := bne_eq_false_iff_eq.mpr c75
                clear c75
                simp only [Option.some.injEq, Prod.mk.injEq] at H
                obtain ⟨rfl, rfl, rfl⟩ := H
                have p71 : 0 ≤ (3 : Int) := (by omega)
                have q71 : 3 < a0.size := (by have : (3 : Int) < (a0.size : Int) := of_decide_eq_true (by first | (with_reducible assumption) | assumption); omega)
                have hx71 : ∀ h : 3 < a0.size, ((a0[3]'h).toNat : Int) = bt a0 3 := bt_at a0 3
                clear p71
                have qi71 : (3 < (a0.size : Int)) = True := eq_true (of_decide_eq_true (by first | (with_reducible assumption) | assumption))
                replace q71 := eq_true q71
                go_wp2
                go_ret3
                exact ⟨by first | rfl | (simp; done) | (simp [*]; done), by repeat (first | exact Drawn0.refl _ | apply Drawn0.step)⟩
               ·rw [if_neg c75] at H
                have c75b0 : ((a0.extract (x5_2 : Int).toNat a0.size).toList == ([112, 97, 116, 104] : List UInt8)) = false := beq_eq_false_iff_ne.mpr c75
                have c75b1 : ((a0.extract (x5_2 : Int).toNat a0.size).toList != ([112, 97, 116, 104] : List UInt8)) = true := bne_iff_ne.mpr c75
                by_cases c76 : (a0.extract (x5_2 : Int).toNat a0.size).toList = ([110, 97, 109, 101, 115, 112, 97, 99, 101] : List UInt8)
                ·rw [if_pos c76] at H
                 have c76b0 : ((a0.extract (x5_2 : Int).toNat a0.size).toList == ([110, 97, 109, 101, 115, 112, 97, 99, 101] : List UInt8)) = true := beq_iff_eq.mpr c76
                 have c76b1 : ((a0.extract (x5_2 : Int).toNat a0.size).toList != ([110, 97, 109, 101, 115, 112, 97, 99, 101] : List UInt8)) = false := bne_eq_false_iff_eq.mpr c76
                 clear c76
                 by_cases c77 : x6_2 = 0
                 ·rw [if_pos c77] at H
                  have c77b0 : (x6_2 == 0) = true := beq_iff_eq.mpr c77
                  have c77b1 : (x6_2 != 0) = false := bne_eq_false_iff_eq.mpr c77
                  clear c77
                  simp only [Option.some.injEq, Prod.mk.injEq] at H
                  obtain ⟨rfl, rfl, rfl⟩ := H
                  have p71 : 0 ≤ (3 : Int) := (by omega)
                  have q71 : 3 < a0.size := (by have : (3 : Int) < (a0.size : Int) := of_decide_eq_true (by first | (with_reducible assumption) | assumption); omega)
                  have hx71 : ∀ h : 3 < a0.size, ((a0[3]'h).toNat : Int) = bt a0 3 := bt_at a0 3
                  clear p71
                  have qi71 : (3 < (a0.size : Int)) = True := eq_true (of_decide_eq_true (by first | (with_reducible assumption) | assumption))
                  replace q71 := eq_true q71
                  go_wp2
                  go_ret3
                  exact ⟨by first | rfl | (simp; done) | (simp [*]; done), by repeat (first | exact Drawn0.refl _ | apply Drawn0.step)⟩
                 ·rw [if_neg c77] at H
                  have c77b0 : (x6_2 == 0) = false := beq_eq_false_iff_ne.mpr c77
                  have c77b1 : (x6_2 != 0) = true := bne_iff_ne.mpr c77
                  simp only [Option.some.injEq, Prod.mk.injEq] at H
                  obtain ⟨rfl, rfl, rfl⟩ := H
                  have p71 : 0 ≤ (3 : Int) := (by omega)
                  have q71 : 3 < a0.size := (by have : (3 : Int) < (a0.size : Int) := of_decide_eq_true (by first | (with_reducible assumption) | assumption); omega)
                  have hx71 : ∀ h : 3 < a0.size, ((a0[3]'h).toNat : Int) = bt a0 3 := bt_at a0 3
                  clear p71
                  have qi71 : (3 < (a0.size : Int)) = True := eq_true (of_decide_eq_true (by first | (with_reducible assumption) | assumption))
                  replace q71 := eq_true q71
                  go_wp2
                  go_ret3
                  exact ⟨by first | rfl | (simp; done) | (simp [*]; done), by repeat (first | exact Drawn0.refl _ | apply Drawn0.step)⟩
                ·rw [if_neg c76] at H
                 have c76b0 : ((a0.extract (x5_2 : Int).toNat a0.size).toList == ([110, 97, 109, 101, 115, 112, 97, 99, 101] : List UInt8)) = false := beq_eq_false_iff_ne.mpr c76
                 have c76b1 : ((a0.extract (x5_2 : Int).toNat a0.size).toList != ([110, 97, 109, 101, 115, 112, 97, 99, 101] : List UInt8)) = true := bne_iff_ne.mpr c76
                 simp only [Option.some.injEq, Prod.mk.injEq] at H
                 obtain ⟨rfl, rfl, rfl⟩ := H
                 have p71 : 0 ≤ (3 : Int) := (by omega)
                 have q71 : 3 < a0.size := (by have : (3 : Int) < (a0.size : Int) := of_decide_eq_true (by first | (with_reducible assumption) | assumption); omega)
                 have hx71 : ∀ h : 3 < a0.size, ((a0[3]'h).toNat : Int) = bt a0 3 := bt_at a0 3
                 clear p71
                 have qi71 : (3 < (a0.size : Int)) = True := eq_true (of_decide_eq_true (by first | (with_reducible assumption) | assumption))
                 replace q71 := eq_true q71
                 go_wp2
                 go_ret3
                 exact ⟨by first | rfl | (simp; done) | (simp [*]; done), by repeat (first | exact Drawn0.refl _ | apply Drawn0.step)⟩
           ·rw [if_neg c70] at H
            exact absurd H (by simp)
          ·rw [if_neg c69] at H
           have c69b0 : (x5_2 == 5) = false := beq_eq_false_iff_ne.mpr c69
           have c69b1 : (x5_2 != 5) = true := bne_iff_ne.mpr c69
           by_cases c78 : x6_2 > 63
           ·rw [if_pos c78] at H
            have c78b0 : decide (63 < x6_2) = true := decide_eq_true c78
            clear c78
            simp only [Option.some.injEq, Prod.mk.injEq] at H
            obtain ⟨rfl, rfl, rfl⟩ := H
            go_wp2
            go_ret3
            exact ⟨by first | rfl | (simp; done) | (simp [*]; done), by repeat (first | exact Drawn0.refl _ | apply Drawn0.step)⟩
           ·rw [if_neg c78] at H
            have c78b0 : decide (63 < x6_2) = false := decide_eq_false c78
            clear c78
            by_cases c79 : (a0.extract (x5_2 : Int).toNat a0.size).toList = ([] : List UInt8)
            ·rw [if_pos c79] at H
             have c79b0 : ((a0.extract (x5_2 : Int).toNat a0.size).toList == ([] : List UInt8)) = true := beq_iff_eq.mpr c79
             have c79b1 : ((a0.extract (x5_2 : Int).toNat a0.size).toList != ([] : List UInt8)) = false := bne_eq_false_iff_eq.mpr c79
             clear c79
             simp only [Option.some.injEq, Prod.mk.injEq] at H
             obtain ⟨rfl, rfl, rfl⟩ := H
             go_wp2
             go_ret3
             exact ⟨by first | rfl | (simp; done) | (simp [*]; done), by repeat (first | exact Drawn0.refl _ | apply Drawn0.step)⟩
            ·rw [if_neg c79] at H
             have c79b0 : ((a0.extract (x5_2 : Int).toNat a0.size).toList == ([] : List UInt8)) = false := beq_eq_false_iff_ne.mpr c79
             have c79b1 : ((a0.extract (x5_2 : Int).toNat a0.size).toList != ([] : List UInt8)) = true := bne_iff_ne.mpr c79
             by_cases c80 : (a0.extract (x5_2 : Int).toNat a0.size).toList = ([112, 97, 116, 104] : List UInt8)
             ·rw [if_pos c80] at H
              have c80b0 : ((a0.extract (x5_2 : Int).toNat a0.size).toList == ([112, 97, 116, 104] : List UInt8)) = true := beq_iff_eq.mpr c80
              have c80b1 : ((a0.extract (x5_2 : Int).toNat a0.size).toList != ([112, 97, 116, 104] : List UInt8)) = false := bne_eq_false_iff_eq.mpr c80
              clear c80
              simp only [Option.some.injEq, Prod.mk.injEq] at H
              obtain ⟨rfl, rfl, rfl⟩ := H
              go_wp2
              go_ret3
              exact ⟨by first | rfl | (simp; done) | (simp [*]; done), by repeat (first | exact Drawn0.refl _ | apply Drawn0.step)⟩
             ·rw [if_neg c80] at H
              have c80b0 : ((a0.extract (x5_2 : Int).toNat a0.size).toList == ([112, 97, 116, 104] : List UInt8)) = false := beq_eq_false_iff_ne.mpr c80
              have c80b1 : ((a0.extract (x5_2 : Int).toNat a0.size).toList != ([112, 97, 116, 104] : List UInt8)) = true := bne_iff_ne.mpr c80
              by_cases c81 : (a0.extract (x5_2 : Int).toNat a0.size).toList = ([110, 97, 109, 101, 115, 112, 97, 99, 101] : List UInt8)
              ·rw [if_pos c81] at H
               have c81b0 : ((a0.extract (x5_2 : Int).toNat a0.size).toList == ([110, 97, 109, 101, 115, 112, 97, 99, 101] : List UInt8)) = true := beq_iff_eq.mpr c81
               have c81b1 : ((a0.extract (x5_2 : Int).toNat a0.size).toList != ([110, 97, 109, 101, 115, 112, 97, 99, 101] : List UInt8)) = false := bne_eq_false_iff_eq.mpr c81
               clear c81
               by_cases c82 : x6_2 = 0
               ·rw [if_pos c82] at H
                have c82b0 : (x6_2 == 0) = true := beq_iff_eq.mpr c82
                have c82b1 : (x6_2 != 0) = false := bne_eq_false_iff_eq.mpr c82
                clear c82
                simp only [Option.some.injEq, Prod.mk.injEq] at H
                obtain ⟨rfl, rfl, rfl⟩ := H
                go_wp2
                go_ret3
                exact ⟨by first | rfl | (simp; done) | (simp [*]; done), by repeat (first | exact Drawn0.refl _ | apply Drawn0.step)⟩
               ·rw [if_neg c82] at H
                have c82b0 : (x6_2 == 0) = false := beq_eq_false_iff_ne.mpr c82
                have c82b1 : (x6_2 != 0) = true := bne_iff_ne.mpr c82
                simp only [Option.some.injEq, Prod.mk.injEq] at H
                obtain ⟨rfl, rfl, rfl⟩ := H
                go_wp2
                go_ret3
                exact ⟨by first | rfl | (simp; done) | (simp [*]; done), by repeat (first | exact Drawn0.refl _ | apply Drawn0.step)⟩
              ·rw [if_neg c81] at H
               have c81b0 : ((a0.extract (x5_2 : Int).toNat a0.size).toList == ([110, 97, 109, 101, 115, 112, 97, 99, 101] : List UInt8)) = false := beq_eq_false_iff_ne.mpr c81
               have c81b1 : ((a0.extract (x5_2 : Int).toNat a0.size).toList != ([110, 97, 109, 101, 115, 112, 97, 99, 101] : List UInt8)) = true := bne_iff_ne.mpr c81
               simp only [Option.some.injEq, Prod.mk.injEq] at H
               obtain ⟨rfl, rfl, rfl⟩ := H
               go_wp2
               go_ret3
               exact ⟨by first | rfl | (simp; done) | (simp [*]; done), by repeat (first | exact Drawn0.refl _ | apply Drawn0.step)⟩
        ·rw [if_neg c67] at H
         exact absurd H (by simp)
       ·rw [if_neg c66] at H
        exact absurd H (by simp)

end Go.Proofs.YtoldgnmgjpjapaaDoor.Q
