-- Written by a program of this session out of the translation; Lean checks it.
import Derived.Test.YtoaehanfknjngaaDoorL0
namespace Go.Proofs.YtoaehanfknjngaaDoor.L
open Go.RowKit Go.Proofs.YtoaehanfknjngaaDoorW.PrintWords Go.Proofs.YtoaehanfknjngaaDoorW.PrintLast Go.Proofs.YtoaehanfknjngaaDoorW.PrintMore
attribute [local go_sem] max2_int min2_int max_two min_two max_three min_three max_four min_four   -- for this text's walks alone
set_option linter.unusedVariables false
set_option linter.unusedSimpArgs false

mutual
def dbus_zzEnd.l0 : Nat → ByteArray → Int → Option (Int)
 | 0, _, _ => none
 | k + 1, x0, x3 => if x3 < (x0.size : Int) then (if 0 ≤ x3 then (if (bt x0 x3) = 41 then (some (wrap64 (x3 + 1))) else (if x3 ≤ (x0.size : Int) then ((dbus_zzEnd.f k (x0.extract (x3 : Int).toNat x0.size)).bind fun t130 => (dbus_zzEnd.l0 k x0 (wrap64 (x3 + t130)))) else (none))) else (none)) else (some (wrap64 (x3 + 1)))
def dbus_zzEnd.f : Nat → ByteArray → Option (Int)
 | 0, _ => none
 | k + 1, a0 => if a0.toList = ([] : List UInt8) then (some 0) else (if 0 < (a0.size : Int) then (if (bt a0 0) = 91 then (if 1 ≤ (a0.size : Int) then ((dbus_zzEnd.f k (a0.extract 1 a0.size)).bind fun t128 => (some (wrap64 (1 + t128)))) else (none)) else (if (bt a0 0) = 123 then (if 2 ≤ (a0.size : Int) then ((dbus_zzEnd.f k (a0.extract 2 a0.size)).bind fun t129 => (some (wrap64 (2 + t129)))) else (none)) else (if (bt a0 0) = 40 then (dbus_zzEnd.l0 k a0 1) else (some 1)))) else (none))
end
theorem dbus_zzEnd.mono_l : ∀ k, (∀ y0, LeO (dbus_zzEnd.f k y0) (dbus_zzEnd.f (k + 1) y0)) ∧ (∀ y0 y1, LeO (dbus_zzEnd.l0 k y0 y1) (dbus_zzEnd.l0 (k + 1) y0 y1))
 | 0 => ⟨fun _ r h => by simp [dbus_zzEnd.f] at h, fun _ _ r h => by simp [dbus_zzEnd.l0] at h⟩
 | k + 1 => by
  obtain ⟨ih0, ih1⟩ := dbus_zzEnd.mono_l k
  refine ⟨?_, ?_⟩
  ·intro y0
   unfold dbus_zzEnd.f
   repeat' first
   | (with_reducible exact ih0 _)
   | (with_reducible exact ih1 _ _)
   | (with_reducible exact LeO.refl _)
   | (with_reducible exact LeO.none _)
   | (with_reducible refine LeO.ite ?_ ?_)
   | (with_reducible refine LeO.bind ?_ (fun _ => ?_))
   | exact ih0 _
   | exact ih1 _ _
   | exact LeO.none _
   | refine LeO.ite ?_ ?_
   | refine LeO.bind ?_ (fun _ => ?_)
  ·intro y0 y1
   unfold dbus_zzEnd.l0
   repeat' first
   | (with_reducible exact ih0 _)
   | (with_reducible exact ih1 _ _)
   | (with_reducible exact LeO.refl _)
   | (with_reducible exact LeO.none _)
   | (with_reducible refine LeO.ite ?_ ?_)
   | (with_reducible refine LeO.bind ?_ (fun _ => ?_))
   | exact ih0 _
   | exact ih1 _ _
   | exact LeO.none _
   | refine LeO.ite ?_ ?_
   | refine LeO.bind ?_ (fun _ => ?_)
theorem dbus_zzEnd.mono : ∀ a0 k, LeO (dbus_zzEnd.f k a0) (dbus_zzEnd.f (k + 1) a0) := by
 intro a0 k
 obtain ⟨ih0, ih1⟩ := dbus_zzEnd.mono_l k
 exact ih0 a0
set_option maxHeartbeats 8000000 in
set_option maxRecDepth 100000 in
theorem dbus_zzEnd.calls (k : Nat) : ∀ (a0 : ByteArray) (r : Int) (w : World) (h : dbus_zzEnd.f k a0 = some r),
  Calls Tryd.prog 59 #[.string a0] w fun e w' => e = .returned (.int .i64 r) ∧ Drawn0 w w' := by
 induction k using Nat.strongRecOn with
 | _ k ih =>
 intro a0 r w h
 cases k with
 | zero => exact absurd h (by simp [dbus_zzEnd.f])
 | succ k =>
 simp only [dbus_zzEnd.f] at h
 have H : (if a0.toList = ([] : List UInt8) then (some 0) else (if 0 < (a0.size : Int) then (if (bt a0 0) = 91 then (if 1 ≤ (a0.size : Int) then ((dbus_zzEnd.f k (a0.extract 1 a0.size)).bind fun t128 => (some (wrap64 (1 + t128)))) else (none)) else (if (bt a0 0) = 123 then (if 2 ≤ (a0.size : Int) then ((dbus_zzEnd.f k (a0.extract 2 a0.size)).bind fun t129 => (some (wrap64 (2 + t129)))) else (none)) else (if (bt a0 0) = 40 then (dbus_zzEnd.l0 k a0 1) else (some 1)))) else (none))) = some r := h
 clear h
 by_cases c2 : a0.toList = ([] : List UInt8)
 ·rw [if_pos c2] at H
  have c2b0 : (a0.toList == ([] : List UInt8)) = true := beq_iff_eq.mpr c2
  have c2b1 : (a0.toList != ([] : List UInt8)) = false := bne_eq_false_iff_eq.mpr c2
  clear c2
  obtain rfl := Option.some.inj H
  go_enter Tryd.func59, Tryd.ntmps59
  go_wp2
  go_ret
  exact ⟨by first | rfl | (simp; done) | (simp [*]; done), by repeat (first | exact Drawn0.refl _ | apply Drawn0.step)⟩
 ·rw [if_neg c2] at H
  have c2b0 : (a0.toList == ([] : List UInt8)) = false := beq_eq_false_iff_ne.mpr c2
  have c2b1 : (a0.toList != ([] : List UInt8)) = true := bne_iff_ne.mpr c2
  by_cases c3 : 0 < (a0.size : Int)
  ·rw [if_pos c3] at H
   have c3b0 : decide (0 < (a0.size : Int)) = true := decide_eq_true c3
   have c3b1 : decide (0 < a0.size) = true := decide_eq_true (by omega)
   clear c3
   by_cases c5 : (bt a0 0) = 91
   ·rw [if_pos c5] at H
    have c5b0 : ((bt a0 0) == 91) = true := beq_iff_eq.mpr c5
    have c5b1 : ((bt a0 0) != 91) = false := bne_eq_false_iff_eq.mpr c5
    clear c5
    by_cases c6 : 1 ≤ (a0.size : Int)
    ·rw [if_pos c6] at H
     have c6b0 := eq_true c6
     have c6b1 : decide (1 ≤ (a0.size : Int)) = true := decide_eq_true c6
     clear c6
     replace H := Option.bind_eq_some_iff.mp H
     obtain ⟨t128, A70, H⟩ := H
     replace H : (some (wrap64 (1 + t128))) = some r := H
     have A7 := Aside0.mk A70
     clear A70
     obtain rfl := Option.some.inj H
     have p4 : 0 ≤ (0 : Int) := (by omega)
     have q4 : 0 < a0.size := (by have : (0 : Int) < (a0.size : Int) := of_decide_eq_true (by first | (with_reducible assumption) | assumption); omega)
     have hx4 : ∀ h : 0 < a0.size, ((a0[0]'h).toNat : Int) = bt a0 0 := bt_at a0 0
     clear p4
     have qi4 : (0 < (a0.size : Int)) = True := eq_true (of_decide_eq_true (by first | (with_reducible assumption) | assumption))
     replace q4 := eq_true q4
     go_enter Tryd.func59, Tryd.ntmps59
     go_wp2_with (first | ((with_reducible refine gate_callee (f := 59) rfl ?_); refine goesL_ (some 12) rfl rfl Tryd.func59 (by kernel_rfl) rfl #[.string (a0.extract 1 a0.size)] rfl (by (try simp only [List.map_toArray, List.map_cons, List.map_nil]); first | done | rfl) ?_; (with_reducible refine (ih k (by omega) (a0.extract 1 a0.size) t128 _ A7.out).mono ?_); rintro e w' ⟨rfl, ⟨nd, rfl⟩⟩; refine ⟨_, rfl, ?_⟩))
     go_ret
     exact ⟨by first | rfl | (simp; done) | (simp [*]; done), by repeat (first | exact Drawn0.refl _ | apply Drawn0.step)⟩
    ·rw [if_neg c6] at H
     exact absurd H (by simp)
   ·rw [if_neg c5] at H
    have c5b0 : ((bt a0 0) == 91) = false := beq_eq_false_iff_ne.mpr c5
    have c5b1 : ((bt a0 0) != 91) = true := bne_iff_ne.mpr c5
    by_cases c8 : (bt a0 0) = 123
    ·rw [if_pos c8] at H
     have c8b0 : ((bt a0 0) == 123) = true := beq_iff_eq.mpr c8
     have c8b1 : ((bt a0 0) != 123) = false := bne_eq_false_iff_eq.mpr c8
     clear c8
     by_cases c9 : 2 ≤ (a0.size : Int)
     ·rw [if_pos c9] at H
      have c9b0 := eq_true c9
      have c9b1 : decide (2 ≤ (a0.size : Int)) = true := decide_eq_true c9
      clear c9
      replace H := Option.bind_eq_some_iff.mp H
      obtain ⟨t129, A100, H⟩ := H
      replace H : (some (wrap64 (2 + t129))) = some r := H
      have A10 := Aside0.mk A100
      clear A100
      obtain rfl := Option.some.inj H
      have p4 : 0 ≤ (0 : Int) := (by omega)
      have q4 : 0 < a0.size := (by have : (0 : Int) < (a0.size : Int) := of_decide_eq_true (by first | (with_reducible assumption) | assumption); omega)
      have hx4 : ∀ h : 0 < a0.size, ((a0[0]'h).toNat : Int) = bt a0 0 := bt_at a0 0
      clear p4
      have qi4 : (0 < (a0.size : Int)) = True := eq_true (of_decide_eq_true (by first | (with_reducible assumption) | assumption))
      replace q4 := eq_true q4
      go_enter Tryd.func59, Tryd.ntmps59
      go_wp2_with (first | ((with_reducible refine gate_callee (f := 59) rfl ?_); refine goesL_ (some 18) rfl rfl Tryd.func59 (by kernel_rfl) rfl #[.string (a0.extract 2 a0.size)] rfl (by (try simp only [List.map_toArray, List.map_cons, List.map_nil]); first | done | rfl) ?_; (with_reducible refine (ih k (by omega) (a0.extract 2 a0.size) t129 _ A10.out).mono ?_); rintro e w' ⟨rfl, ⟨nd, rfl⟩⟩; refine ⟨_, rfl, ?_⟩))
      go_ret
      exact ⟨by first | rfl | (simp; done) | (simp [*]; done), by repeat (first | exact Drawn0.refl _ | apply Drawn0.step)⟩
     ·rw [if_neg c9] at H
      exact absurd H (by simp)
    ·rw [if_neg c8] at H
     have c8b0 : ((bt a0 0) == 123) = false := beq_eq_false_iff_ne.mpr c8
     have c8b1 : ((bt a0 0) != 123) = true := bne_iff_ne.mpr c8
     by_cases c11 : (bt a0 0) = 40
     ·rw [if_pos c11] at H
      have c11b0 : ((bt a0 0) == 40) = true := beq_iff_eq.mpr c11
      have c11b1 : ((bt a0 0) != 40) = false := bne_eq_false_iff_eq.mpr c11
      clear c11
      have H' := Aside0.mk H
      clear H
      have p4 : 0 ≤ (0 : Int) := (by omega)
      have q4 : 0 < a0.size := (by have : (0 : Int) < (a0.size : Int) := of_decide_eq_true (by first | (with_reducible assumption) | assumption); omega)
      have hx4 : ∀ h : 0 < a0.size, ((a0[0]'h).toNat : Int) = bt a0 0 := bt_at a0 0
      clear p4
      have qi4 : (0 < (a0.size : Int)) = True := eq_true (of_decide_eq_true (by first | (with_reducible assumption) | assumption))
      replace q4 := eq_true q4
      go_enter Tryd.func59, Tryd.ntmps59
      go_wp2
      go_loopg [3] k (fun kq v3 w' => ∃ (x3_1 : Int), v3 = .int .i64 x3_1 ∧ Aside0 (dbus_zzEnd.l0 kq a0 x3_1 = some r) ∧ Aside0 (kq ≤ k) ∧ Drawn0 w w')
      case atStart => exact ⟨(1), (by first | rfl | (simp; done) | (simp [*]; done)), H', ⟨Nat.le_refl _⟩, by repeat (first | exact Drawn0.refl _ | apply Drawn0.step)⟩
      case round =>
       clear H'
       (try clear c1); (try clear c2); (try clear c2b0); (try clear c2b1); (try clear p2); (try clear c3); (try clear c3b0); (try clear c3b1); (try clear p4); (try clear q4); (try clear hx4); (try clear qi4); (try clear c5); (try clear c5b0); (try clear c5b1); (try clear c6); (try clear c6b0); (try clear c6b1); (try clear p6); (try clear c8); (try clear c8b0); (try clear c8b1); (try clear c9); (try clear c9b0); (try clear c9b1); (try clear c11); (try clear c11b0); (try clear c11b1); (try clear p4); (try clear q4)
       obtain ⟨x3_1, rfl, HA, HK1, ⟨m1, rfl⟩⟩ := hrel
       cases gk with
       | zero => exact absurd HA.out (by simp [dbus_zzEnd.l0])
       | succ k1 =>
        have H := HA.out
        clear HA
        simp only [dbus_zzEnd.l0] at H
        by_cases c12 : x3_1 < (a0.size : Int)
        ·rw [if_pos c12] at H
         have c12b0 : decide (x3_1 < (a0.size : Int)) = true := decide_eq_true c12
         clear c12
         by_cases c13 : 0 ≤ x3_1
         ·rw [if_pos c13] at H
          have c13b0 : decide (0 ≤ x3_1) = true := decide_eq_true c13
          clear c13
          by_cases c15 : (bt a0 x3_1) = 41
          ·rw [if_pos c15] at H
           have c15b0 : ((bt a0 x3_1) == 41) = true := beq_iff_eq.mpr c15
           have c15b1 : ((bt a0 x3_1) != 41) = false := bne_eq_false_iff_eq.mpr c15
           clear c15
           obtain rfl := Option.some.inj H
           have p14 : 0 ≤ (x3_1 : Int) := of_decide_eq_true (by first | (with_reducible assumption) | assumption)
           have q14 : x3_1 < (a0.size : Int) := of_decide_eq_true (by first | (with_reducible assumption) | assumption)
           have hx14 := bt_at a0 x3_1
           replace p14 := eq_true p14
           replace q14 := eq_true q14
           go_wp2
           go_ret
           exact ⟨by first | rfl | (simp; done) | (simp [*]; done), by repeat (first | exact Drawn0.refl _ | apply Drawn0.step)⟩
          ·rw [if_neg c15] at H
           have c15b0 : ((bt a0 x3_1) == 41) = false := beq_eq_false_iff_ne.mpr c15
           have c15b1 : ((bt a0 x3_1) != 41) = true := bne_iff_ne.mpr c15
           have c16b0 := eq_true (of_decide_eq_true (by first | (with_reducible assumption) | assumption) : 0 ≤ x3_1)
           by_cases c17 : x3_1 ≤ (a0.size : Int)
           ·rw [if_pos c17] at H
            have c17b0 := eq_true c17
            have c17b1 : decide (x3_1 ≤ (a0.size : Int)) = true := decide_eq_true c17
            clear c17
            replace H := Option.bind_eq_some_iff.mp H
            obtain ⟨t130, A180, H⟩ := H
            replace H : (dbus_zzEnd.l0 k1 a0 (wrap64 (x3_1 + t130))) = some r := H
            have A18 := Aside0.mk A180
            clear A180
            have H' := Aside0.mk H
            clear H
            have p14 : 0 ≤ (x3_1 : Int) := of_decide_eq_true (by first | (with_reducible assumption) | assumption)
            have q14 : x3_1 < (a0.size : Int) := of_decide_eq_true (by first | (with_reducible assumption) | assumption)
            have hx14 := bt_at a0 x3_1
            replace p14 := eq_true p14
            replace q14 := eq_true q14
            go_wp2_with (first | ((with_reducible refine gate_callee (f := 59) rfl ?_); refine goesL_ (some 36) rfl rfl Tryd.func59 (by kernel_rfl) rfl #[.string (a0.extract (x3_1 : Int).toNat a0.size)] rfl (by (try simp only [List.map_toArray, List.map_cons, List.map_nil]); first | done | rfl) ?_; (with_reducible refine (ih k1 (by have := HK1.out; omega) (a0.extract (x3_1 : Int).toNat a0.size) t130 _ A18.out).mono ?_); rintro e w' ⟨rfl, ⟨nd, rfl⟩⟩; refine ⟨_, rfl, ?_⟩))
            go_roundg k1
            case measure => have := HK1.out; omega
            case rel => exact ⟨(wrap64 (x3_1 + t130)), (by first | rfl | (simp; done) | (simp [*]; done)), H', ⟨by have := HK1.out; omega⟩, by repeat (first | exact Drawn0.refl _ | apply Drawn0.step)⟩
           ·rw [if_neg c17] at H
            exact absurd H (by simp)
         ·rw [if_neg c13] at H
          exact absurd H (by simp)
        ·rw [if_neg c12] at H
         have c12b0 : decide (x3_1 < (a0.size : Int)) = false := decide_eq_false c12
         clear c12
         obtain rfl := Option.some.inj H
         go_wp2
         go_ret
         exact ⟨by first | rfl | (simp; done) | (simp [*]; done), by repeat (first | exact Drawn0.refl _ | apply Drawn0.step)⟩
     ·rw [if_neg c11] at H
      have c11b0 : ((bt a0 0) == 40) = false := beq_eq_false_iff_ne.mpr c11
      have c11b1 : ((bt a0 0) != 40) = true := bne_iff_ne.mpr c11
      obtain rfl := Option.some.inj H
      have p4 : 0 ≤ (0 : Int) := (by omega)
      have q4 : 0 < a0.size := (by have : (0 : Int) < (a0.size : Int) := of_decide_eq_true (by first | (with_reducible assumption) | assumption); omega)
      have hx4 : ∀ h : 0 < a0.size, ((a0[0]'h).toNat : Int) = bt a0 0 := bt_at a0 0
      clear p4
      have qi4 : (0 < (a0.size : Int)) = True := eq_true (of_decide_eq_true (by first | (with_reducible assumption) | assumption))
      replace q4 := eq_true q4
      go_enter Tryd.func59, Tryd.ntmps59
      go_wp2
      go_ret
      exact ⟨by first | rfl | (simp; done) | (simp [*]; done), by repeat (first | exact Drawn0.refl _ | apply Drawn0.step)⟩
  ·rw [if_neg c3] at H
   exact absurd H (by simp)

def dbus_zzType_fields.l0 : Nat → ByteArray → List ByteArray → Int → Option (List ByteArray)
 | 0, _, _, _ => none
 | k + 1, x0, x3, x4 => if x4 < (x0.size : Int) then (if 0 ≤ x4 then (if (bt x0 x4) = 41 then (some x3) else (if x4 ≤ (x0.size : Int) then ((dbus_zzEnd.f k (x0.extract (x4 : Int).toNat x0.size)).bind fun t131 => (if x4 ≤ (wrap64 (x4 + t131)) then (if (wrap64 (x4 + t131)) ≤ (x0.size : Int) then (if x3.length < 8796093022208 then (dbus_zzType_fields.l0 k x0 (x3 ++ [x0.extract (x4 : Int).toNat ((wrap64 (x4 + t131)) : Int).toNat]) (wrap64 (x4 + t131))) else (none)) else (none)) else (none))) else (none))) else (none)) else (some x3)
def dbus_zzType_fields.f (k : Nat) (a0 : ByteArray) : Option (List ByteArray) := dbus_zzType_fields.l0 k a0 ([] : List ByteArray) 1
theorem dbus_zzType_fields.mono_l : ∀ k, (∀ y0 y1 y2, LeO (dbus_zzType_fields.l0 k y0 y1 y2) (dbus_zzType_fields.l0 (k + 1) y0 y1 y2))
 | 0 => fun _ _ _ r h => by simp [dbus_zzType_fields.l0] at h
 | k + 1 => by
  have ih0 := dbus_zzType_fields.mono_l k
  ·intro y0 y1 y2
   unfold dbus_zzType_fields.l0
   repeat' first
   | (with_reducible exact ih0 _ _ _)
   | (with_reducible exact dbus_zzEnd.mono _ _)
   | (with_reducible exact LeO.refl _)
   | (with_reducible exact LeO.none _)
   | (with_reducible refine LeO.ite ?_ ?_)
   | (with_reducible refine LeO.bind ?_ (fun _ => ?_))
   | exact ih0 _ _ _
   | exact dbus_zzEnd.mono _ _
   | exact LeO.none _
   | refine LeO.ite ?_ ?_
   | refine LeO.bind ?_ (fun _ => ?_)
theorem dbus_zzType_fields.mono : ∀ a0 k, LeO (dbus_zzType_fields.f k a0) (dbus_zzType_fields.f (k + 1) a0) := by
 intro a0 k
 have ih0 := dbus_zzType_fields.mono_l k
 unfold dbus_zzType_fields.f
 repeat' first
   | (with_reducible exact ih0 _ _ _)
   | (with_reducible exact dbus_zzEnd.mono _ _)
   | (with_reducible exact LeO.refl _)
   | (with_reducible exact LeO.none _)
   | (with_reducible refine LeO.ite ?_ ?_)
   | (with_reducible refine LeO.bind ?_ (fun _ => ?_))
   | exact ih0 _ _ _
   | exact dbus_zzEnd.mono _ _
   | exact LeO.none _
   | refine LeO.ite ?_ ?_
   | refine LeO.bind ?_ (fun _ => ?_)
set_option maxHeartbeats 8000000 in
set_option maxRecDepth 100000 in
theorem dbus_zzType_fields.calls (k : Nat) (a0 : ByteArray) (r : List ByteArray) (w : World) (h : dbus_zzType_fields.f k a0 = some r) :
  Calls Tryd.prog 55 #[.string a0] w fun e w' => ∃ v0_ : Value, e = .returned (v0_) ∧ Kd.R Kd.string 58 w' w.heap.size (fun _ => True) v0_ r ∧ Below w.heap.size w w' := by
 have HB := Aside0.mk (Below.refl w.heap.size w)
 have H : (dbus_zzType_fields.l0 k a0 ([] : List ByteArray) 1) = some r := h
 clear h
 have H' := Aside0.mk H
 clear H
 go_enter Tryd.func55, Tryd.ntmps55
 go_wp2
 go_loopg [3, 4] k (fun kq v3 v4 w' => ∃ (x3_1 : List ByteArray) (x4_1 : Int), v4 = .int .i64 x4_1 ∧ Aside0 (dbus_zzType_fields.l0 kq a0 x3_1 x4_1 = some r) ∧ Aside0 (kq ≤ k) ∧ Aside0 (Kd.R Kd.string 58 w' w.heap.size (fun _ => True) v3 x3_1) ∧ Aside0 (Below w.heap.size w w'))
 case atStart => exact ⟨(([] : List ByteArray)), (1), (by first | rfl | (simp; done) | (simp [*]; done)), H', ⟨Nat.le_refl _⟩, ⟨by first | exact Kd.R_nil _ _ _ _ _ | exact Kd.N_nil _ _ _ _ _ | exact Kd.V_nil _ _ _ _ _ | exact Kd.Q_nil _ _ _ _ _ | exact Kd.S_nil _ _ _ _ _⟩, ⟨by repeat (first | (with_reducible first | exact HB.out | apply below_alloc | apply pw_below_drewN | apply below_drew1) | exact HB.out)⟩⟩
 case round =>
  clear H'
  obtain ⟨x3_1, x4_1, rfl, HA, HK1, HO_3, HB⟩ := hrel
  cases gk with
  | zero => exact absurd HA.out (by simp [dbus_zzType_fields.l0])
  | succ k1 =>
   have H := HA.out
   clear HA
   simp only [dbus_zzType_fields.l0] at H
   by_cases c2 : x4_1 < (a0.size : Int)
   ·rw [if_pos c2] at H
    have c2b0 : decide (x4_1 < (a0.size : Int)) = true := decide_eq_true c2
    clear c2
    by_cases c3 : 0 ≤ x4_1
    ·rw [if_pos c3] at H
     have c3b0 : decide (0 ≤ x4_1) = true := decide_eq_true c3
     clear c3
     by_cases c5 : (bt a0 x4_1) = 41
     ·rw [if_pos c5] at H
      have c5b0 : ((bt a0 x4_1) == 41) = true := beq_iff_eq.mpr c5
      have c5b1 : ((bt a0 x4_1) != 41) = false := bne_eq_false_iff_eq.mpr c5
      clear c5
      obtain rfl := Option.some.inj H
      have p4 : 0 ≤ (x4_1 : Int) := of_decide_eq_true (by first | (with_reducible assumption) | assumption)
      have q4 : x4_1 < (a0.size : Int) := of_decide_eq_true (by first | (with_reducible assumption) | assumption)
      have hx4 := bt_at a0 x4_1
      replace p4 := eq_true p4
      replace q4 := eq_true q4
      go_wp2
      go_ret
      exact ⟨_, by rfl, by (with_reducible repeat (first | apply Kd.R_alloc | apply Kd.R_drewN | apply Kd.R_drew)); exact HO_3.out, by repeat (first | (with_reducible first | exact HB.out | apply below_alloc | apply pw_below_drewN | apply below_drew1) | exact HB.out)⟩
     ·rw [if_neg c5] at H
      have c5b0 : ((bt a0 x4_1) == 41) = false := beq_eq_false_iff_ne.mpr c5
      have c5b1 : ((bt a0 x4_1) != 41) = true := bne_iff_ne.mpr c5
      have c6b0 := eq_true (of_decide_eq_true (by first | (with_reducible assumption) | assumption) : 0 ≤ x4_1)
      by_cases c7 : x4_1 ≤ (a0.size : Int)
      ·rw [if_pos c7] at H
       have c7b0 := eq_true c7
       have c7b1 : decide (x4_1 ≤ (a0.size : Int)) = true := decide_eq_true c7
       clear c7
       replace H := Option.bind_eq_some_iff.mp H
       obtain ⟨t131, A80, H⟩ := H
       replace H : (if x4_1 ≤ (wrap64 (x4_1 + t131)) then (if (wrap64 (x4_1 + t131)) ≤ (a0.size : Int) then (if x3_1.length < 8796093022208 then (dbus_zzType_fields.l0 k1 a0 (x3_1 ++ [a0.extract (x4_1 : Int).toNat ((wrap64 (x4_1 + t131)) : Int).toNat]) (wrap64 (x4_1 + t131))) else (none)) else (none)) else (none)) = some r := H
       have A8 := Aside0.mk A80
       clear A80
       have c9b0 := eq_true (of_decide_eq_true (by first | (with_reducible assumption) | assumption) : 0 ≤ x4_1)
       by_cases c10 : x4_1 ≤ (wrap64 (x4_1 + t131))
       ·rw [if_pos c10] at H
        have c10b0 := eq_true c10
        have c10b1 : decide (x4_1 ≤ (wrap64 (x4_1 + t131))) = true := decide_eq_true c10
        by_cases c11 : (wrap64 (x4_1 + t131)) ≤ (a0.size : Int)
        ·rw [if_pos c11] at H
         have c11b0 := eq_true c11
         have c11b1 : decide ((wrap64 (x4_1 + t131)) ≤ (a0.size : Int)) = true := decide_eq_true c11
         by_cases c12 : x3_1.length < 8796093022208
         ·rw [if_pos c12] at H
          have LMc12 := Aside0.mk c12
          clear c12
          obtain ⟨y132, hy132⟩ : ∃ y_ : List ByteArray, y_ = (x3_1 ++ [a0.extract (x4_1 : Int).toNat ((wrap64 (x4_1 + t131)) : Int).toNat]) := ⟨_, rfl⟩
          replace H : (dbus_zzType_fields.l0 k1 a0 y132 (wrap64 (x4_1 + t131))) = some r := by first | (rw [hy132]; with_reducible exact H) | (have H2_ := (Option.bind_some _ _).symm.trans H; rw [hy132]; with_reducible exact H2_) | (have H2_ := (Option.bind_some _ _).symm.trans H; with_reducible exact H2_) | with_reducible exact H | (rw [hy132]; exact H) | exact H
          have Ny132 := Aside0.mk hy132
          clear hy132
          have H' := Aside0.mk H
          clear H
          have p4 : 0 ≤ (x4_1 : Int) := of_decide_eq_true (by first | (with_reducible assumption) | assumption)
          have q4 : x4_1 < (a0.size : Int) := of_decide_eq_true (by first | (with_reducible assumption) | assumption)
          have hx4 := bt_at a0 x4_1
          replace p4 := eq_true p4
          replace q4 := eq_true q4
          go_wp2_with (first | ((with_reducible refine gate_callee (f := 59) rfl ?_); refine goesL_ (some 19) rfl rfl Tryd.func59 (by kernel_rfl) rfl #[.string (a0.extract (x4_1 : Int).toNat a0.size)] rfl (by (try simp only [List.map_toArray, List.map_cons, List.map_nil]); first | done | rfl) ?_; (with_reducible refine (dbus_zzEnd.calls k1 (a0.extract (x4_1 : Int).toNat a0.size) t131 _ A8.out).mono ?_); rintro e w' ⟨rfl, ⟨nd, rfl⟩⟩; refine ⟨_, rfl, ?_⟩) | ((with_reducible refine gate_builtin (b := .append) (xs := #[.tmp 20, .tmp 27]) rfl ?_); at_builtin; refine Kd.R_append Kd.string (w0 := w) w.heap.size rfl (.tmp 20) (.tmp 27) 117 58 (.string ⟨#[]⟩) 16 rfl Tryd.underlying117 info58 rfl (by decide) (by omega) u3 x3_1 (a0.extract (x4_1 : Int).toNat ((wrap64 (x4_1 + t131)) : Int).toNat) [.string (a0.extract (x4_1 : Int).toNat ((wrap64 (x4_1 + t131)) : Int).toNat)] (fun _ => True) (fun _ => False) rfl rfl ?aP (fun _ hk => hk.elim) ?aF ?aO ?aB ?aS ?aL ?_; (case aP => exact rfl); (case aB => exact (by repeat (first | (with_reducible first | exact HB.out | apply below_alloc | apply pw_below_drewN | apply below_drew1) | exact HB.out))); (case aF => exact (fun _ _ => trivial)); (case aO => exact (by (with_reducible repeat (first | apply Kd.R_alloc | apply Kd.R_drewN | apply Kd.R_drew)); exact HO_3.out)); (case aS => exact (below_size (by repeat (first | (with_reducible first | exact HB.out | apply below_alloc | apply pw_below_drewN | apply below_drew1) | exact HB.out)))); (case aL => have := LMc12.out; omega); intro v133 w13 ho hb hg hat; rw [← Ny132.out] at ho; have n0_ := Aside0.mk (hb); have n1_ := Aside0.mk (ho); clear HB; clear HO_3; have HB := n0_; have HO134 := n1_; clear n0_ n1_; clear ho hb hg hat))
          go_roundg k1
          case measure => have := HK1.out; omega
          case rel => exact ⟨(y132), (wrap64 (x4_1 + t131)), (by first | rfl | (simp; done) | (simp [*]; done)), H', ⟨by have := HK1.out; omega⟩, ⟨by (with_reducible repeat (first | apply Kd.R_alloc | apply Kd.R_drewN | apply Kd.R_drew)); exact HO134.out⟩, ⟨by repeat (first | (with_reducible first | exact HB.out | apply below_alloc | apply pw_below_drewN | apply below_drew1) | exact HB.out)⟩⟩
         ·rw [if_neg c12] at H
          exact absurd H (by simp)
        ·rw [if_neg c11] at H
         exact absurd H (by simp)
       ·rw [if_neg c10] at H
        exact absurd H (by simp)
      ·rw [if_neg c7] at H
       exact absurd H (by simp)
    ·rw [if_neg c3] at H
     exact absurd H (by simp)
   ·rw [if_neg c2] at H
    have c2b0 : decide (x4_1 < (a0.size : Int)) = false := decide_eq_false c2
    clear c2
    obtain rfl := Option.some.inj H
    go_wp2
    go_ret
    exact ⟨_, by rfl, by (with_reducible repeat (first | apply Kd.R_alloc | apply Kd.R_drewN | apply Kd.R_drew)); exact HO_3.out, by repeat (first | (with_reducible first | exact HB.out | apply below_alloc | apply pw_below_drewN | apply below_drew1) | exact HB.out)⟩

def dbus_zzType_NumField.f (k : Nat) (a0 : ByteArray) : Option (Int) := (dbus_zzType_fields.f k a0).bind fun t135 => (some (t135.length : Int))
theorem dbus_zzType_NumField.mono : ∀ a0 k, LeO (dbus_zzType_NumField.f k a0) (dbus_zzType_NumField.f (k + 1) a0) := by
 intro a0 k
 unfold dbus_zzType_NumField.f
 repeat' first
   | (with_reducible exact dbus_zzType_fields.mono _ _)
   | (with_reducible exact LeO.refl _)
   | (with_reducible exact LeO.none _)
   | (with_reducible refine LeO.ite ?_ ?_)
   | (with_reducible refine LeO.bind ?_ (fun _ => ?_))
   | exact dbus_zzType_fields.mono _ _
   | exact LeO.none _
   | refine LeO.ite ?_ ?_
   | refine LeO.bind ?_ (fun _ => ?_)
set_option maxHeartbeats 8000000 in
set_option maxRecDepth 100000 in
theorem dbus_zzType_NumField.calls (k : Nat) (a0 : ByteArray) (r : Int) (w : World) (h : dbus_zzType_NumField.f k a0 = some r) :
  Calls Tryd.prog 36 #[.string a0] w fun e w' => e = .returned (.int .i64 r) ∧ Below w.heap.size w w' := by
 have HB := Aside0.mk (Below.refl w.heap.size w)
 have H : ((dbus_zzType_fields.f k a0).bind fun t135 => (some (t135.length : Int))) = some r := h
 clear h
 replace H := Option.bind_eq_some_iff.mp H
 obtain ⟨t135, A20, H⟩ := H
 replace H : (some (t135.length : Int)) = some r := H
 have A2 := Aside0.mk A20
 clear A20
 obtain rfl := Option.some.inj H
 go_enter Tryd.func36, Tryd.ntmps36
 go_wp2_with (first | ((with_reducible refine gate_callee (f := 55) rfl ?_); refine goesL_ (some 4) rfl rfl Tryd.func55 (by kernel_rfl) rfl #[.string a0] rfl (by (try simp only [List.map_toArray, List.map_cons, List.map_nil]); first | done | rfl) ?_; (with_reducible refine (dbus_zzType_fields.calls k a0 t135 _ A2.out).mono ?_); rintro e w3 ⟨v136, rfl, ho0, hb⟩; refine ⟨_, rfl, ?_⟩; have n0_ := Aside0.mk (Kd.R_lower ho0 (below_size (by repeat (first | (with_reducible first | exact HB.out | apply below_alloc | apply pw_below_drewN | apply below_drew1) | exact HB.out)))); have n1_ := Aside0.mk (below_step (by repeat (first | (with_reducible first | exact HB.out | apply below_alloc | apply pw_below_drewN | apply below_drew1) | exact HB.out)) hb); clear HB; have HO137 := n0_; have HB := n1_; clear n0_ n1_; (try clear hb); (try clear hb2); (try clear hk); (try clear hi); (try clear ho0); obtain ⟨Ao4, co4, eo4⟩ := Kd.R_slice HO137.out; subst eo4))
 go_ret
 exact ⟨by rfl, by repeat (first | (with_reducible first | exact HB.out | apply below_alloc | apply pw_below_drewN | apply below_drew1) | exact HB.out)⟩

def dbus_zzType_Field.f (k : Nat) (a0 : ByteArray) (a1 : Int) : Option (ByteArray × ByteArray × ByteArray) := (dbus_zzType_fields.f k a0).bind fun t139 => (if 0 ≤ a1 then (if a1 < (t139.length : Int) then (some (rdOf ByteArray.empty t139 a1, (⟨#[]⟩ : ByteArray), (⟨#[]⟩ : ByteArray))) else (none)) else (none))
theorem dbus_zzType_Field.mono : ∀ a0 a1 k, LeO (dbus_zzType_Field.f k a0 a1) (dbus_zzType_Field.f (k + 1) a0 a1) := by
 intro a0 a1 k
 unfold dbus_zzType_Field.f
 repeat' first
   | (with_reducible exact dbus_zzType_fields.mono _ _)
   | (with_reducible exact LeO.refl _)
   | (with_reducible exact LeO.none _)
   | (with_reducible refine LeO.ite ?_ ?_)
   | (with_reducible refine LeO.bind ?_ (fun _ => ?_))
   | exact dbus_zzType_fields.mono _ _
   | exact LeO.none _
   | refine LeO.ite ?_ ?_
   | refine LeO.bind ?_ (fun _ => ?_)
set_option maxHeartbeats 8000000 in
set_option maxRecDepth 100000 in
theorem dbus_zzType_Field.calls (k : Nat) (a0 : ByteArray) (a1 : Int) (r1 : ByteArray) (r2 : ByteArray) (r3 : ByteArray) (w : World) (h : dbus_zzType_Field.f k a0 a1 = some (r1, r2, r3)) :
  Calls Tryd.prog 37 #[.string a0, .int .i64 a1] w fun e w' => e = .returned (.agg #[.string r1, .string r2, .string r3]) ∧ Below w.heap.size w w' := by
 have hu73 := Tryd.underlying73
 have HB := Aside0.mk (Below.refl w.heap.size w)
 have H : ((dbus_zzType_fields.f k a0).bind fun t139 => (if 0 ≤ a1 then (if a1 < (t139.length : Int) then (some (rdOf ByteArray.empty t139 a1, (⟨#[]⟩ : ByteArray), (⟨#[]⟩ : ByteArray))) else (none)) else (none))) = some (r1, r2, r3) := h
 clear h
 replace H := Option.bind_eq_some_iff.mp H
 obtain ⟨t139, A30, H⟩ := H
 replace H : (if 0 ≤ a1 then (if a1 < (t139.length : Int) then (some (rdOf ByteArray.empty t139 a1, (⟨#[]⟩ : ByteArray), (⟨#[]⟩ : ByteArray))) else (none)) else (none)) = some (r1, r2, r3) := H
 have A3 := Aside0.mk A30
 clear A30
 by_cases c4 : 0 ≤ a1
 ·rw [if_pos c4] at H
  have c4b0 : decide (0 ≤ a1) = true := decide_eq_true c4
  clear c4
  by_cases c5 : a1 < (t139.length : Int)
  ·rw [if_pos c5] at H
   have c5b0 : decide (a1 < (t139.length : Int)) = true := decide_eq_true c5
   clear c5
   simp only [Option.some.injEq, Prod.mk.injEq] at H
   obtain ⟨rfl, rfl, rfl⟩ := H
   go_enter Tryd.func37, Tryd.ntmps37
   go_wp2_with (first | ((with_reducible refine gate_dst (N := 4) rfl ?_); refine box_event ?hg (N := 4) ?hd (cs := #[.string (⟨#[]⟩ : ByteArray), .string (⟨#[]⟩ : ByteArray), .string (⟨#[]⟩ : ByteArray)]) (t := 73) ?hr ?_; (case hd => rfl); (case hg => rfl); (case hr => first | (go_simp; done) | (go_simp; rfl)); intro gb138 hg w6 hbox hb; have n0_ := Aside0.mk (below_step (by repeat (first | (with_reducible first | exact HB.out | apply below_alloc | apply pw_below_drewN | apply below_drew1) | exact HB.out)) hb); have n1_ := Aside0.mk (hbox); have n2_ := Aside0.mk ((by rw [hg]; exact (below_size (by repeat (first | (with_reducible first | exact HB.out | apply below_alloc | apply pw_below_drewN | apply below_drew1) | exact HB.out))) : w.heap.size ≤ gb138)); have n3_ := Aside0.mk ((by rw [hg]; exact (below_size (by repeat (first | (with_reducible first | exact HB.out | apply below_alloc | apply pw_below_drewN | apply below_drew1) | exact HB.out))) : w.heap.size ≤ gb138)); clear HB; have HB := n0_; have BK138 := n1_; have GW138 := n2_; have GE138 := n3_; clear n0_ n1_ n2_ n3_; clear hb hbox hg) | ((with_reducible refine gate_callee (f := 55) rfl ?_); refine goesL_ (some 6) rfl rfl Tryd.func55 (by kernel_rfl) rfl #[.string a0] rfl (by (try simp only [List.map_toArray, List.map_cons, List.map_nil]); first | done | rfl) ?_; (with_reducible refine (dbus_zzType_fields.calls k a0 t139 _ A3.out).mono ?_); rintro e w7 ⟨v140, rfl, ho0, hb⟩; refine ⟨_, rfl, ?_⟩; have n0_ := Aside0.mk (Kd.R_lower ho0 (below_size (by repeat (first | (with_reducible first | exact HB.out | apply below_alloc | apply pw_below_drewN | apply below_drew1 | refine below_set ?_ GE138.out) | exact HB.out)))); have n1_ := Aside0.mk (blk_below (g := gb138) (o := .cells #[.string (⟨#[]⟩ : ByteArray), .string (⟨#[]⟩ : ByteArray), .string (⟨#[]⟩ : ByteArray)] 73 (0, 0)) (by (with_reducible repeat (first | refine blk_drewN ?_ _ | refine blk_drew ?_ | refine blk_alloc ?_ _)); exact BK138.out) hb); have n2_ := Aside0.mk (below_step (by repeat (first | (with_reducible first | exact HB.out | apply below_alloc | apply pw_below_drewN | apply below_drew1 | refine below_set ?_ GE138.out) | exact HB.out)) hb); clear BK138; clear HB; have HO141 := n0_; have BK138 := n1_; have HB := n2_; clear n0_ n1_ n2_; (try clear hb); (try clear hb2); (try clear hk); (try clear hi); (try clear ho0); obtain ⟨Ao8, co8, eo8⟩ := Kd.R_slice HO141.out; subst eo8; have p142 : 0 ≤ (a1 : Int) := of_decide_eq_true (by first | (with_reducible assumption) | assumption); have q142 : a1 < (t139.length : Int) := of_decide_eq_true (by first | (with_reducible assumption) | assumption); obtain ⟨ad142, e142, hx142_0⟩ := Kd.at_string (Kd.R_reads' HO141.out).2.2 a1 p142 q142; cases e142; replace p142 := eq_true p142; replace q142 := eq_true q142; have hcz9_0 : w7.cell? ⟨gb138, 0, none⟩ = some (.string (⟨#[]⟩ : ByteArray)) := (blk_cell BK138.out 0).trans rfl; have hcz9_1 : w7.cell? ⟨gb138, 1, none⟩ = some (.string (⟨#[]⟩ : ByteArray)) := (blk_cell BK138.out 1).trans rfl; have hcz9_2 : w7.cell? ⟨gb138, 2, none⟩ = some (.string (⟨#[]⟩ : ByteArray)) := (blk_cell BK138.out 2).trans rfl; have hfz9_0 := blk_frozen BK138.out 0; have hfz9_1 := blk_frozen BK138.out 1; have hfz9_2 := blk_frozen BK138.out 2))
   refine bodyPost_ret (results_cell_row rfl _ _ gb138 73 #[.string (rdOf ByteArray.empty t139 a1), .string (⟨#[]⟩ : ByteArray), .string (⟨#[]⟩ : ByteArray)] (0, 0) _ rfl (by (with_reducible repeat (first | refine blk_drewN ?_ _ | refine blk_drew ?_ | refine blk_alloc ?_ _)); refine blk_put (cs := #[.string (rdOf ByteArray.empty t139 a1), .string (⟨#[]⟩ : ByteArray), .string (⟨#[]⟩ : ByteArray)]) ?_ 2 _ rfl; (with_reducible repeat (first | refine blk_drewN ?_ _ | refine blk_drew ?_ | refine blk_alloc ?_ _)); refine blk_put (cs := #[.string (rdOf ByteArray.empty t139 a1), .string (⟨#[]⟩ : ByteArray), .string (⟨#[]⟩ : ByteArray)]) ?_ 1 _ rfl; (with_reducible repeat (first | refine blk_drewN ?_ _ | refine blk_drew ?_ | refine blk_alloc ?_ _)); refine blk_put (cs := #[.string (⟨#[]⟩ : ByteArray), .string (⟨#[]⟩ : ByteArray), .string (⟨#[]⟩ : ByteArray)]) ?_ 0 _ rfl; (with_reducible repeat (first | refine blk_drewN ?_ _ | refine blk_drew ?_ | refine blk_alloc ?_ _)); exact BK138.out) Tryd.underlying73 rfl (by kernel_rfl)) rfl ?_
   exact ⟨by rfl, by repeat (first | (with_reducible first | exact HB.out | apply below_alloc | apply pw_below_drewN | apply below_drew1 | refine below_set ?_ GE138.out) | exact HB.out)⟩
  ·rw [if_neg c5] at H
   exact absurd H (by simp)
 ·rw [if_neg c4] at H
  exact absurd H (by simp)

def dbus_zzTag_Get.f (a0 : ByteArray) (a1 : ByteArray) : Option (ByteArray) := some (⟨#[]⟩ : ByteArray)
set_option maxHeartbeats 8000000 in
set_option maxRecDepth 100000 in
theorem dbus_zzTag_Get.calls (a0 : ByteArray) (a1 : ByteArray) (r : ByteArray) (w : World) (h : dbus_zzTag_Get.f a0 a1 = some r) :
  Calls Tryd.prog 38 #[.string a0, .string a1] w fun e w' => e = .returned (.string r) ∧ Drawn0 w w' := by
 have H : (some (⟨#[]⟩ : ByteArray)) = some r := h
 clear h
 obtain rfl := Option.some.inj H
 go_enter Tryd.func38, Tryd.ntmps38
 go_wp2
 go_ret
 exact ⟨by first | rfl | (simp; done) | (simp [*]; done), by repeat (first | exact Drawn0.refl _ | apply Drawn0.step)⟩

-- NOT PRINTED: function 56 (dbus_MakeVariantWithSignature)

-- NOT PRINTED: function 52 (dbus_zzValue_Interface)

end Go.Proofs.YtoaehanfknjngaaDoor.L
