-- Written by a program of this session out of the translation; Lean checks it.
import Derived.Test.YtoaehanfknjngaaDoorQ2
namespace Go.Proofs.YtoaehanfknjngaaDoor.Q
open Go.RowKit Go.Proofs.YtoaehanfknjngaaDoor.L Go.Proofs.YtoaehanfknjngaaDoor.Gd Go.Proofs.YtoaehanfknjngaaDoor.Sb Go.Proofs.YtoaehanfknjngaaDoor.Vs Go.Proofs.YtoaehanfknjngaaDoorW.PrintWords Go.Proofs.YtoaehanfknjngaaDoorW.PrintLast Go.Proofs.YtoaehanfknjngaaDoorW.PrintMore
attribute [local go_sem] max2_int min2_int max_two min_two max_three min_three max_four min_four   -- for this text's walks alone
set_option linter.unusedVariables false
set_option linter.unusedSimpArgs false

mutual
def spec_ValidPath.j0 : Nat → ByteArray → Bool → Option (Bool)
 | 0, _, _ => none
 | k + 1, x0, x20 => if x20 = true then (some false) else (spec_ValidPath.l0 k x0 1)
def spec_ValidPath.l0 : Nat → ByteArray → Int → Option (Bool)
 | 0, _, _ => none
 | k + 1, x0, x3 => if x3 < (x0.size : Int) then (if 0 ≤ x3 then (if (bt x0 x3) = 47 then (if 0 ≤ (wrap64 (x3 - 1)) then (if (wrap64 (x3 - 1)) < (x0.size : Int) then (if (bt x0 (wrap64 (x3 - 1))) = 47 then (some false) else (spec_ValidPath.l0 k x0 (wrap64 (x3 + 1)))) else (none)) else (none)) else ((spec_word.f (bt x0 x3)).bind fun t125 => (if t125 = true then (spec_ValidPath.l0 k x0 (wrap64 (x3 + 1))) else (some false)))) else (none)) else (some true)
end
def spec_ValidPath.f (k : Nat) (a0 : ByteArray) : Option (Bool) := if a0.toList = ([47] : List UInt8) then (some true) else (if a0.toList = ([] : List UInt8) then (spec_ValidPath.j0 k a0 true) else (if 0 < (a0.size : Int) then (if (bt a0 0) = 47 then (if 0 ≤ (wrap64 ((a0.size : Int) - 1)) then (if (wrap64 ((a0.size : Int) - 1)) < (a0.size : Int) then (spec_ValidPath.j0 k a0 ((bt a0 (wrap64 ((a0.size : Int) - 1))) == 47)) else (none)) else (none)) else (spec_ValidPath.j0 k a0 true)) else (none)))
theorem spec_ValidPath.mono_l : ∀ k, (∀ y0 y1, LeO (spec_ValidPath.j0 k y0 y1) (spec_ValidPath.j0 (k + 1) y0 y1)) ∧ (∀ y0 y1, LeO (spec_ValidPath.l0 k y0 y1) (spec_ValidPath.l0 (k + 1) y0 y1))
 | 0 => ⟨fun _ _ r h => by simp [spec_ValidPath.j0] at h, fun _ _ r h => by simp [spec_ValidPath.l0] at h⟩
 | k + 1 => by
  obtain ⟨ih0, ih1⟩ := spec_ValidPath.mono_l k
  refine ⟨?_, ?_⟩
  ·intro y0 y1
   unfold spec_ValidPath.j0
   repeat' first
   | (with_reducible exact ih0 _ _)
   | (with_reducible exact ih1 _ _)
   | (with_reducible exact LeO.refl _)
   | (with_reducible exact LeO.none _)
   | (with_reducible refine LeO.ite ?_ ?_)
   | (with_reducible refine LeO.bind ?_ (fun _ => ?_))
   | exact ih0 _ _
   | exact ih1 _ _
   | exact LeO.none _
   | refine LeO.ite ?_ ?_
   | refine LeO.bind ?_ (fun _ => ?_)
  ·intro y0 y1
   unfold spec_ValidPath.l0
   repeat' first
   | (with_reducible exact ih0 _ _)
   | (with_reducible exact ih1 _ _)
   | (with_reducible exact LeO.refl _)
   | (with_reducible exact LeO.none _)
   | (with_reducible refine LeO.ite ?_ ?_)
   | (with_reducible refine LeO.bind ?_ (fun _ => ?_))
   | exact ih0 _ _
   | exact ih1 _ _
   | exact LeO.none _
   | refine LeO.ite ?_ ?_
   | refine LeO.bind ?_ (fun _ => ?_)
theorem spec_ValidPath.mono : ∀ a0 k, LeO (spec_ValidPath.f k a0) (spec_ValidPath.f (k + 1) a0) := by
 intro a0 k
 obtain ⟨ih0, ih1⟩ := spec_ValidPath.mono_l k
 unfold spec_ValidPath.f
 repeat' first
   | (with_reducible exact ih0 _ _)
   | (with_reducible exact ih1 _ _)
   | (with_reducible exact LeO.refl _)
   | (with_reducible exact LeO.none _)
   | (with_reducible refine LeO.ite ?_ ?_)
   | (with_reducible refine LeO.bind ?_ (fun _ => ?_))
   | exact ih0 _ _
   | exact ih1 _ _
   | exact LeO.none _
   | refine LeO.ite ?_ ?_
   | refine LeO.bind ?_ (fun _ => ?_)
set_option maxHeartbeats 8000000 in
set_option maxRecDepth 100000 in
theorem spec_ValidPath.calls (k : Nat) (a0 : ByteArray) (r : Bool) (w : World) (h : spec_ValidPath.f k a0 = some r) :
  Calls Tryd.prog 23 #[.string a0] w fun e w' => e = .returned (.bool r) ∧ Drawn0 w w' := by
 have H : (if a0.toList = ([47] : List UInt8) then (some true) else (if a0.toList = ([] : List UInt8) then (spec_ValidPath.j0 k a0 true) else (if 0 < (a0.size : Int) then (if (bt a0 0) = 47 then (if 0 ≤ (wrap64 ((a0.size : Int) - 1)) then (if (wrap64 ((a0.size : Int) - 1)) < (a0.size : Int) then (spec_ValidPath.j0 k a0 ((bt a0 (wrap64 ((a0.size : Int) - 1))) == 47)) else (none)) else (none)) else (spec_ValidPath.j0 k a0 true)) else (none)))) = some r := h
 clear h
 by_cases c2 : a0.toList = ([47] : List UInt8)
 ·rw [if_pos c2] at H
  have c2b0 : (a0.toList == ([47] : List UInt8)) = true := beq_iff_eq.mpr c2
  have c2b1 : (a0.toList != ([47] : List UInt8)) = false := bne_eq_false_iff_eq.mpr c2
  clear c2
  obtain rfl := Option.some.inj H
  go_enter Tryd.func23, Tryd.ntmps23
  go_wp2
  go_ret
  exact ⟨by first | rfl | (simp; done) | (simp [*]; done), by repeat (first | exact Drawn0.refl _ | apply Drawn0.step)⟩
 ·rw [if_neg c2] at H
  have c2b0 : (a0.toList == ([47] : List UInt8)) = false := beq_eq_false_iff_ne.mpr c2
  have c2b1 : (a0.toList != ([47] : List UInt8)) = true := bne_iff_ne.mpr c2
  have HC3 := Aside0.mk H
  clear H
  go_enter Tryd.func23, Tryd.ntmps23
  go_upto_region 3 with (fail)
  go_cut [20] (fun v20 wc => ∃ (kq : Nat) (x20_2 : Bool), v20 = .bool x20_2 ∧ Aside0 (spec_ValidPath.j0 kq a0 x20_2 = some r) ∧ Aside0 (kq ≤ k) ∧ Drawn0 w wc)
  case first =>
   have H := HC3.out
   clear HC3
   by_cases c4 : a0.toList = ([] : List UInt8)
   ·rw [if_pos c4] at H
    have c4b0 : (a0.toList == ([] : List UInt8)) = true := beq_iff_eq.mpr c4
    have c4b1 : (a0.toList != ([] : List UInt8)) = false := bne_eq_false_iff_eq.mpr c4
    clear c4
    (first | rw [c4b0] | (simp only [i64_w, i32_w]; rw [c4b0]) | skip)
    have H' := Aside0.mk H
    clear H
    go_wp2
    go_meet
    case rel => exact ⟨_, (true), (by first | rfl | (simp; done) | (simp [*]; done)), H', ⟨by first | omega | exact Nat.le_refl _⟩, by repeat (first | exact Drawn0.refl _ | apply Drawn0.step)⟩
   ·rw [if_neg c4] at H
    have c4b0 : (a0.toList == ([] : List UInt8)) = false := beq_eq_false_iff_ne.mpr c4
    have c4b1 : (a0.toList != ([] : List UInt8)) = true := bne_iff_ne.mpr c4
    (first | rw [c4b0] | (simp only [i64_w, i32_w]; rw [c4b0]) | skip)
    by_cases c5 : 0 < (a0.size : Int)
    ·rw [if_pos c5] at H
     have c5b0 : decide (0 < (a0.size : Int)) = true := decide_eq_true c5
     have c5b1 : decide (0 < a0.size) = true := decide_eq_true (by omega)
     clear c5
     by_cases c7 : (bt a0 0) = 47
     ·rw [if_pos c7] at H
      have c7b0 : ((bt a0 0) == 47) = true := beq_iff_eq.mpr c7
      have c7b1 : ((bt a0 0) != 47) = false := bne_eq_false_iff_eq.mpr c7
      clear c7
      obtain ⟨ji8, hji8⟩ : ∃ j_ : Int, (wrap64 ((a0.size : Int) - 1)) = j_ := ⟨_, rfl⟩
      replace H : (if 0 ≤ (ji8) then (if (ji8) < (a0.size : Int) then (spec_ValidPath.j0 k a0 ((bt a0 (ji8)) == 47)) else (none)) else (none)) = some r := by first | (rw [hji8] at H; exact H) | (simp only [hji8] at H ⊢; exact H)
      have hji8w : (IntKind.i64.wrap ((a0.size : Int) - 1)) = ji8 := (i64_w _).trans hji8
      by_cases c9 : 0 ≤ (ji8)
      ·rw [if_pos c9] at H
       have c9b0 : decide (0 ≤ (ji8)) = true := decide_eq_true c9
       clear c9
       by_cases c10 : (ji8) < (a0.size : Int)
       ·rw [if_pos c10] at H
        have c10b0 : decide ((ji8) < (a0.size : Int)) = true := decide_eq_true c10
        clear c10
        have H' := Aside0.mk H
        clear H
        have p6 : 0 ≤ (0 : Int) := (by omega)
        have q6 : 0 < a0.size := (by have : (0 : Int) < (a0.size : Int) := of_decide_eq_true (by first | (with_reducible assumption) | assumption); omega)
        have hx6 : ∀ h : 0 < a0.size, ((a0[0]'h).toNat : Int) = bt a0 0 := bt_at a0 0
        clear p6
        have qi6 : (0 < (a0.size : Int)) = True := eq_true (of_decide_eq_true (by first | (with_reducible assumption) | assumption))
        replace q6 := eq_true q6
        have p11 : 0 ≤ ((ji8) : Int) := of_decide_eq_true (by first | (with_reducible assumption) | assumption)
        have q11 : (ji8) < (a0.size : Int) := of_decide_eq_true (by first | (with_reducible assumption) | assumption)
        have hx11 := bt_at a0 (ji8)
        replace p11 := eq_true p11
        replace q11 := eq_true q11
        go_wp2
        go_meet
        case rel => exact ⟨_, (((bt a0 (ji8)) == 47)), (by first | rfl | (simp; done) | (simp only [← hji8] <;> (first | rfl | simp)) | (simp [*]; done)), H', ⟨by first | omega | exact Nat.le_refl _⟩, by repeat (first | exact Drawn0.refl _ | apply Drawn0.step)⟩
       ·rw [if_neg c10] at H
        exact absurd H (by simp)
      ·rw [if_neg c9] at H
       exact absurd H (by simp)
     ·rw [if_neg c7] at H
      have c7b0 : ((bt a0 0) == 47) = false := beq_eq_false_iff_ne.mpr c7
      have c7b1 : ((bt a0 0) != 47) = true := bne_iff_ne.mpr c7
      have H' := Aside0.mk H
      clear H
      have p6 : 0 ≤ (0 : Int) := (by omega)
      have q6 : 0 < a0.size := (by have : (0 : Int) < (a0.size : Int) := of_decide_eq_true (by first | (with_reducible assumption) | assumption); omega)
      have hx6 : ∀ h : 0 < a0.size, ((a0[0]'h).toNat : Int) = bt a0 0 := bt_at a0 0
      clear p6
      have qi6 : (0 < (a0.size : Int)) = True := eq_true (of_decide_eq_true (by first | (with_reducible assumption) | assumption))
      replace q6 := eq_true q6
      go_wp2
      go_meet
      case rel => exact ⟨_, (true), (by first | rfl | (simp; done) | (simp [*]; done)), H', ⟨by first | omega | exact Nat.le_refl _⟩, by repeat (first | exact Drawn0.refl _ | apply Drawn0.step)⟩
    ·rw [if_neg c5] at H
     exact absurd H (by simp)
  case rest =>
   clear HC3
   (try clear c1); (try clear p1); (try clear q1); (try clear hx1); (try clear c2); (try clear c2b0); (try clear c2b1); (try clear p2); (try clear c4); (try clear c4b0); (try clear c4b1); (try clear c5); (try clear c5b0); (try clear c5b1); (try clear p6); (try clear q6); (try clear hx6); (try clear qi6); (try clear c7); (try clear c7b0); (try clear c7b1); (try clear c9); (try clear c9b0); (try clear c10); (try clear c10b0); (try clear p11); (try clear q11); (try clear hx11); (try clear p11); (try clear p6); (try clear q11); (try clear q6)
   obtain ⟨kq, x20_2, rfl, HA, HJ2, ⟨mc2, rfl⟩⟩ := hcut
   cases kq with
   | zero => exact absurd HA.out (by simp [spec_ValidPath.j0])
   | succ kj2 =>
    have H := HA.out
    clear HA
    simp only [spec_ValidPath.j0] at H
    by_cases c12 : x20_2 = true
    ·subst c12
     have H1 : (some false) = some r := by rw [if_pos rfl] at H; exact H
     clear H
     have H := H1
     clear H1
     obtain rfl := Option.some.inj H
     go_wp2
     go_ret
     exact ⟨by first | rfl | (simp; done) | (simp [*]; done), by repeat (first | exact Drawn0.refl _ | apply Drawn0.step)⟩
    ·replace c12 := Bool.eq_false_iff.mpr c12
     subst c12
     have H1 : (spec_ValidPath.l0 kj2 a0 1) = some r := by rw [if_neg (show ¬ (false = true) by decide)] at H; exact H
     clear H
     have H := H1
     clear H1
     have H' := Aside0.mk H
     clear H
     go_wp2
     go_loopg [3] kj2 (fun kq v3 w' => ∃ (x3_2 : Int), v3 = .int .i64 x3_2 ∧ Aside0 (spec_ValidPath.l0 kq a0 x3_2 = some r) ∧ Aside0 (kq ≤ kj2) ∧ Drawn0 w w')
     case atStart => exact ⟨(1), (by first | rfl | (simp; done) | (simp [*]; done)), H', ⟨Nat.le_refl _⟩, by repeat (first | exact Drawn0.refl _ | apply Drawn0.step)⟩
     case round =>
      clear H'
      (try clear c1); (try clear p1); (try clear q1); (try clear hx1); (try clear c2); (try clear c2b0); (try clear c2b1); (try clear p2); (try clear c4); (try clear c4b0); (try clear c4b1); (try clear c5); (try clear c5b0); (try clear c5b1); (try clear p6); (try clear q6); (try clear hx6); (try clear qi6); (try clear c7); (try clear c7b0); (try clear c7b1); (try clear c9); (try clear c9b0); (try clear c10); (try clear c10b0); (try clear p11); (try clear q11); (try clear hx11); (try clear c12); (try clear p1); (try clear p11); (try clear p2); (try clear p6); (try clear q1); (try clear q11); (try clear q6)
      obtain ⟨x3_2, rfl, HA, HK2, ⟨m2, rfl⟩⟩ := hrel
      cases gk with
      | zero => exact absurd HA.out (by simp [spec_ValidPath.l0])
      | succ k2 =>
       have H := HA.out
       clear HA
       simp only [spec_ValidPath.l0] at H
       by_cases c13 : x3_2 < (a0.size : Int)
       ·rw [if_pos c13] at H
        have c13b0 : decide (x3_2 < (a0.size : Int)) = true := decide_eq_true c13
        clear c13
        by_cases c14 : 0 ≤ x3_2
        ·rw [if_pos c14] at H
         have c14b0 : decide (0 ≤ x3_2) = true := decide_eq_true c14
         clear c14
         by_cases c16 : (bt a0 x3_2) = 47
         ·rw [if_pos c16] at H
          have c16b0 : ((bt a0 x3_2) == 47) = true := beq_iff_eq.mpr c16
          have c16b1 : ((bt a0 x3_2) != 47) = false := bne_eq_false_iff_eq.mpr c16
          clear c16
          obtain ⟨ji18, hji18⟩ : ∃ j_ : Int, (wrap64 (x3_2 - 1)) = j_ := ⟨_, rfl⟩
          replace H : (if 0 ≤ (ji18) then (if (ji18) < (a0.size : Int) then (if (bt a0 (ji18)) = 47 then (some false) else (spec_ValidPath.l0 k2 a0 (wrap64 (x3_2 + 1)))) else (none)) else (none)) = some r := by first | (rw [hji18] at H; exact H) | (simp only [hji18] at H ⊢; exact H)
          have hji18w : (IntKind.i64.wrap (x3_2 - 1)) = ji18 := (i64_w _).trans hji18
          by_cases c19 : 0 ≤ (ji18)
          ·rw [if_pos c19] at H
           have c19b0 : decide (0 ≤ (ji18)) = true := decide_eq_true c19
           clear c19
           by_cases c20 : (ji18) < (a0.size : Int)
           ·rw [if_pos c20] at H
            have c20b0 : decide ((ji18) < (a0.size : Int)) = true := decide_eq_true c20
            clear c20
            by_cases c22 : (bt a0 (ji18)) = 47
            ·rw [if_pos c22] at H
             have c22b0 : ((bt a0 (ji18)) == 47) = true := beq_iff_eq.mpr c22
             have c22b1 : ((bt a0 (ji18)) != 47) = false := bne_eq_false_iff_eq.mpr c22
             clear c22
             obtain rfl := Option.some.inj H
             have p15 : 0 ≤ (x3_2 : Int) := of_decide_eq_true (by first | (with_reducible assumption) | assumption)
             have q15 : x3_2 < (a0.size : Int) := of_decide_eq_true (by first | (with_reducible assumption) | assumption)
             have hx15 := bt_at a0 x3_2
             replace p15 := eq_true p15
             replace q15 := eq_true q15
             have p17 : 0 ≤ (x3_2 : Int) := of_decide_eq_true (by first | (with_reducible assumption) | assumption)
             have q17 : x3_2 < (a0.size : Int) := of_decide_eq_true (by first | (with_reducible assumption) | assumption)
             have hx17 := bt_at a0 x3_2
             replace p17 := eq_true p17
             replace q17 := eq_true q17
             have p21 : 0 ≤ ((ji18) : Int) := of_decide_eq_true (by first | (with_reducible assumption) | assumption)
             have q21 : (ji18) < (a0.size : Int) := of_decide_eq_true (by first | (with_reducible assumption) | assumption)
             have hx21 := bt_at a0 (ji18)
             replace p21 := eq_true p21
             replace q21 := eq_true q21
             go_wp2
             go_ret
             exact ⟨by first | rfl | (simp; done) | (simp only [← hji18] <;> (first | rfl | simp)) | (simp [*]; done), by repeat (first | exact Drawn0.refl _ | apply Drawn0.step)⟩
            ·rw [if_neg c22] at H
             have c22b0 : ((bt a0 (ji18)) == 47) = false := beq_eq_false_iff_ne.mpr c22
             have c22b1 : ((bt a0 (ji18)) != 47) = true := bne_iff_ne.mpr c22
             have H' := Aside0.mk H
             clear H
             have p15 : 0 ≤ (x3_2 : Int) := of_decide_eq_true (by first | (with_reducible assumption) | assumption)
             have q15 : x3_2 < (a0.size : Int) := of_decide_eq_true (by first | (with_reducible assumption) | assumption)
             have hx15 := bt_at a0 x3_2
             replace p15 := eq_true p15
             replace q15 := eq_true q15
             have p17 : 0 ≤ (x3_2 : Int) := of_decide_eq_true (by first | (with_reducible assumption) | assumption)
             have q17 : x3_2 < (a0.size : Int) := of_decide_eq_true (by first | (with_reducible assumption) | assumption)
             have hx17 := bt_at a0 x3_2
             replace p17 := eq_true p17
             replace q17 := eq_true q17
             have p21 : 0 ≤ ((ji18) : Int) := of_decide_eq_true (by first | (with_reducible assumption) | assumption)
             have q21 : (ji18) < (a0.size : Int) := of_decide_eq_true (by first | (with_reducible assumption) | assumption)
             have hx21 := bt_at a0 (ji18)
             replace p21 := eq_true p21
             replace q21 := eq_true q21
             go_wp2
             go_roundg k2
             case measure => have := HJ2.out; have := HK2.out; omega
             case rel => exact ⟨(wrap64 (x3_2 + 1)), (by first | rfl | (simp; done) | (simp [*]; done)), H', ⟨by have := HJ2.out; have := HK2.out; omega⟩, by repeat (first | exact Drawn0.refl _ | apply Drawn0.step)⟩
           ·rw [if_neg c20] at H
            exact absurd H (by simp)
          ·rw [if_neg c19] at H
           exact absurd H (by simp)
         ·rw [if_neg c16] at H
          have c16b0 : ((bt a0 x3_2) == 47) = false := beq_eq_false_iff_ne.mpr c16
          have c16b1 : ((bt a0 x3_2) != 47) = true := bne_iff_ne.mpr c16
          replace H := Option.bind_eq_some_iff.mp H
          obtain ⟨t125, A240, H⟩ := H
          replace H : (if t125 = true then (spec_ValidPath.l0 k2 a0 (wrap64 (x3_2 + 1))) else (some false)) = some r := H
          have A24 := Aside0.mk A240
          clear A240
          by_cases c25 : t125 = true
          ·subst c25
           have H1 : (spec_ValidPath.l0 k2 a0 (wrap64 (x3_2 + 1))) = some r := by rw [if_pos rfl] at H; exact H
           clear H
           have H := H1
           clear H1
           have H' := Aside0.mk H
           clear H
           have p15 : 0 ≤ (x3_2 : Int) := of_decide_eq_true (by first | (with_reducible assumption) | assumption)
           have q15 : x3_2 < (a0.size : Int) := of_decide_eq_true (by first | (with_reducible assumption) | assumption)
           have hx15 := bt_at a0 x3_2
           replace p15 := eq_true p15
           replace q15 := eq_true q15
           have p23 : 0 ≤ (x3_2 : Int) := of_decide_eq_true (by first | (with_reducible assumption) | assumption)
           have q23 : x3_2 < (a0.size : Int) := of_decide_eq_true (by first | (with_reducible assumption) | assumption)
           have hx23 := bt_at a0 x3_2
           replace p23 := eq_true p23
           replace q23 := eq_true q23
           go_wp2_with (first | (go_at_call 31; (with_reducible refine (spec_word.calls (bt a0 x3_2) true _ A24.out).mono ?_); rintro e w' ⟨rfl, ⟨nd, rfl⟩⟩; have p26 : 0 ≤ (x3_2 : Int) := of_decide_eq_true (by first | (with_reducible assumption) | assumption); have q26 : x3_2 < (a0.size : Int) := of_decide_eq_true (by first | (with_reducible assumption) | assumption); have hx26 := bt_at a0 x3_2; replace p26 := eq_true p26; replace q26 := eq_true q26))
           go_roundg k2
           case measure => have := HJ2.out; have := HK2.out; omega
           case rel => exact ⟨(wrap64 (x3_2 + 1)), (by first | rfl | (simp; done) | (simp [*]; done)), H', ⟨by have := HJ2.out; have := HK2.out; omega⟩, by repeat (first | exact Drawn0.refl _ | apply Drawn0.step)⟩
          ·replace c25 := Bool.eq_false_iff.mpr c25
           subst c25
           have H1 : (some false) = some r := by rw [if_neg (show ¬ (false = true) by decide)] at H; exact H
           clear H
           have H := H1
           clear H1
           obtain rfl := Option.some.inj H
           have p15 : 0 ≤ (x3_2 : Int) := of_decide_eq_true (by first | (with_reducible assumption) | assumption)
           have q15 : x3_2 < (a0.size : Int) := of_decide_eq_true (by first | (with_reducible assumption) | assumption)
           have hx15 := bt_at a0 x3_2
           replace p15 := eq_true p15
           replace q15 := eq_true q15
           have p23 : 0 ≤ (x3_2 : Int) := of_decide_eq_true (by first | (with_reducible assumption) | assumption)
           have q23 : x3_2 < (a0.size : Int) := of_decide_eq_true (by first | (with_reducible assumption) | assumption)
           have hx23 := bt_at a0 x3_2
           replace p23 := eq_true p23
           replace q23 := eq_true q23
           go_wp2_with (first | (go_at_call 31; (with_reducible refine (spec_word.calls (bt a0 x3_2) false _ A24.out).mono ?_); rintro e w' ⟨rfl, ⟨nd, rfl⟩⟩))
           go_ret
           exact ⟨by first | rfl | (simp; done) | (simp [*]; done), by repeat (first | exact Drawn0.refl _ | apply Drawn0.step)⟩
        ·rw [if_neg c14] at H
         exact absurd H (by simp)
       ·rw [if_neg c13] at H
        have c13b0 : decide (x3_2 < (a0.size : Int)) = false := decide_eq_false c13
        clear c13
        obtain rfl := Option.some.inj H
        go_wp2
        go_ret
        exact ⟨by first | rfl | (simp; done) | (simp [*]; done), by repeat (first | exact Drawn0.refl _ | apply Drawn0.step)⟩

end Go.Proofs.YtoaehanfknjngaaDoor.Q
