-- Written by a program of this session out of the translation; Lean checks it.
import Derived.Test.YtpndgbiaomglpaaQ0
import Derived.Test.YtpndgbiaomglpaaQ5
import Derived.Test.YtpndgbiaomglpaaQ6
namespace Go.Proofs.Ytpndgbiaomglpaa.Q
open Go.RowKit Go.Proofs.Ytpndgbiaomglpaa.Ext Go.Proofs.YtpndgbiaomglpaaW.PrintWords Go.Proofs.YtpndgbiaomglpaaW.PrintLast Go.Proofs.YtpndgbiaomglpaaW.PrintMore
attribute [local go_sem] max2_int min2_int max_two min_two max_three min_three max_four min_four   -- for this text's walks alone
set_option linter.unusedVariables false
set_option linter.unusedSimpArgs false

/-! ### impl_WrSize: function 17 -/
def impl_WrSize.f (k : Nat) (a0 : ByteArray) : Option (Int) := (dbus_DoorSize.f k a0).bind fun t125 => (some t125)
theorem impl_WrSize.mono : ∀ a0 k, LeO (impl_WrSize.f k a0) (impl_WrSize.f (k + 1) a0) := by
  intro a0 k
  unfold impl_WrSize.f
  repeat' first
      | (with_reducible exact dbus_DoorSize.mono _ _)
      | (with_reducible exact LeO.refl _)
      | (with_reducible exact LeO.none _)
      | (with_reducible refine LeO.ite ?_ ?_)
      | (with_reducible refine LeO.bind ?_ (fun _ => ?_))
      | exact dbus_DoorSize.mono _ _
      | exact LeO.none _
      | refine LeO.ite ?_ ?_
      | refine LeO.bind ?_ (fun _ => ?_)
set_option maxHeartbeats 8000000 in
set_option maxRecDepth 100000 in
theorem impl_WrSize.calls (k : Nat) (a0 : ByteArray) (r : Int) (w : World) (h : impl_WrSize.f k a0 = some r) :
    Calls Try.prog 17 #[.string a0] w fun e w' => e = .returned (.int .i64 r) ∧ Drawn0 w w' := by
  have H : ((dbus_DoorSize.f k a0).bind fun t125 => (some t125)) = some r := h
  clear h
  replace H := Option.bind_eq_some_iff.mp H
  obtain ⟨t125, A20, H⟩ := H
  replace H : (some t125) = some r := H
  have A2 := Aside0.mk A20
  clear A20
  obtain rfl := Option.some.inj H
  go_enter Try.func17, Try.ntmps17
  go_wp2_with (first | ((with_reducible refine gate_callee (f := 25) rfl ?_); refine goesL_ (some 4) rfl rfl Try.func25 (by kernel_rfl) rfl #[.string a0] rfl (by (try simp only [List.map_toArray, List.map_cons, List.map_nil]); first | done | rfl | (simp only [List.length_drop, List.length_take]; rfl)) ?_; (with_reducible refine (dbus_DoorSize.calls k a0 t125 _ A2.out).mono ?_); rintro e w' ⟨rfl, ⟨nd, rfl⟩⟩; refine ⟨_, rfl, ?_⟩))
  go_ret
  exact ⟨by first | rfl | (simp; done) | (simp [*]; done), by repeat (first | exact Drawn0.refl _ | apply Drawn0.step)⟩

/-! ### laws_FnWrSizeSum: function 7 -/
mutual
def laws_FnWrSizeSum.j0 : Nat → ByteArray → ByteArray → Bool → Option (Bool)
  | 0, _, _, _ => none
  | k + 1, x0, x1, x15 => if x15 = true then (some true) else ((spec_Valid.f k x0).bind fun t126 => (if t126 = true then ((spec_Valid.f k x1).bind fun t127 => (if t127 = true then (if x0.toList = ([] : List UInt8) then (laws_FnWrSizeSum.j1 k x0 x1 true) else (if x1.toList = ([] : List UInt8) then (laws_FnWrSizeSum.j1 k x0 x1 true) else (if x0.size + x1.size ≤ 9223372036854775807 then ((spec_Valid.f k (x0 ++ x1)).bind fun t128 => (laws_FnWrSizeSum.j1 k x0 x1 (!t128))) else (none)))) else (laws_FnWrSizeSum.j1 k x0 x1 true))) else (laws_FnWrSizeSum.j1 k x0 x1 true)))
def laws_FnWrSizeSum.j1 : Nat → ByteArray → ByteArray → Bool → Option (Bool)
  | 0, _, _, _ => none
  | k + 1, x0, x1, x38 => if x38 = true then (some true) else ((impl_WrSize.f k x0).bind fun t129 => ((impl_WrSize.f k x1).bind fun t130 => (if t129 = 0 then (laws_FnWrSizeSum.j2 k x0 x1 (wrap64 (t129 + t130)) true) else (laws_FnWrSizeSum.j2 k x0 x1 (wrap64 (t129 + t130)) (t130 == 0)))))
def laws_FnWrSizeSum.j2 : Nat → ByteArray → ByteArray → Int → Bool → Option (Bool)
  | 0, _, _, _, _ => none
  | k + 1, x0, x1, x7, x51 => if x51 = true then (if x0.size + x1.size ≤ 9223372036854775807 then ((impl_WrSize.f k (x0 ++ x1)).bind fun t131 => (if t131 = 0 then ((impl_WrSize.f k (⟨#[100]⟩ : ByteArray)).bind fun t132 => (some (t132 == 8))) else (some false))) else (none)) else (if x0.size + x1.size ≤ 9223372036854775807 then ((impl_WrSize.f k (x0 ++ x1)).bind fun t133 => (if t133 = x7 then ((impl_WrSize.f k (⟨#[100]⟩ : ByteArray)).bind fun t134 => (some (t134 == 8))) else (some false))) else (none))
end
def laws_FnWrSizeSum.f (k : Nat) (a0 : ByteArray) (a1 : ByteArray) : Option (Bool) := if (a0.size : Int) > 2147483647 then (laws_FnWrSizeSum.j0 k a0 a1 true) else (laws_FnWrSizeSum.j0 k a0 a1 (decide ((a1.size : Int) > 2147483647)))
theorem laws_FnWrSizeSum.mono_l : ∀ k, (∀ y0 y1 y2, LeO (laws_FnWrSizeSum.j0 k y0 y1 y2) (laws_FnWrSizeSum.j0 (k + 1) y0 y1 y2)) ∧ (∀ y0 y1 y2, LeO (laws_FnWrSizeSum.j1 k y0 y1 y2) (laws_FnWrSizeSum.j1 (k + 1) y0 y1 y2)) ∧ (∀ y0 y1 y2 y3, LeO (laws_FnWrSizeSum.j2 k y0 y1 y2 y3) (laws_FnWrSizeSum.j2 (k + 1) y0 y1 y2 y3))
  | 0 => ⟨fun _ _ _ r h => by simp [laws_FnWrSizeSum.j0] at h, fun _ _ _ r h => by simp [laws_FnWrSizeSum.j1] at h, fun _ _ _ _ r h => by simp [laws_FnWrSizeSum.j2] at h⟩
  | k + 1 => by
    obtain ⟨ih0, ih1, ih2⟩ := laws_FnWrSizeSum.mono_l k
    refine ⟨?_, ?_, ?_⟩
    · intro y0 y1 y2
      unfold laws_FnWrSizeSum.j0
      repeat' first
      | (with_reducible exact ih0 _ _ _)
      | (with_reducible exact ih1 _ _ _)
      | (with_reducible exact ih2 _ _ _ _)
      | (with_reducible exact impl_WrSize.mono _ _)
      | (with_reducible exact spec_Valid.mono _ _)
      | (with_reducible exact LeO.refl _)
      | (with_reducible exact LeO.none _)
      | (with_reducible refine LeO.ite ?_ ?_)
      | (with_reducible refine LeO.bind ?_ (fun _ => ?_))
      | exact ih0 _ _ _
      | exact ih1 _ _ _
      | exact ih2 _ _ _ _
      | exact impl_WrSize.mono _ _
      | exact spec_Valid.mono _ _
      | exact LeO.none _
      | refine LeO.ite ?_ ?_
      | refine LeO.bind ?_ (fun _ => ?_)
    · intro y0 y1 y2
      unfold laws_FnWrSizeSum.j1
      repeat' first
      | (with_reducible exact ih0 _ _ _)
      | (with_reducible exact ih1 _ _ _)
      | (with_reducible exact ih2 _ _ _ _)
      | (with_reducible exact impl_WrSize.mono _ _)
      | (with_reducible exact spec_Valid.mono _ _)
      | (with_reducible exact LeO.refl _)
      | (with_reducible exact LeO.none _)
      | (with_reducible refine LeO.ite ?_ ?_)
      | (with_reducible refine LeO.bind ?_ (fun _ => ?_))
      | exact ih0 _ _ _
      | exact ih1 _ _ _
      | exact ih2 _ _ _ _
      | exact impl_WrSize.mono _ _
      | exact spec_Valid.mono _ _
      | exact LeO.none _
      | refine LeO.ite ?_ ?_
      | refine LeO.bind ?_ (fun _ => ?_)
    · intro y0 y1 y2 y3
      unfold laws_FnWrSizeSum.j2
      repeat' first
      | (with_reducible exact ih0 _ _ _)
      | (with_reducible exact ih1 _ _ _)
      | (with_reducible exact ih2 _ _ _ _)
      | (with_reducible exact impl_WrSize.mono _ _)
      | (with_reducible exact spec_Valid.mono _ _)
      | (with_reducible exact LeO.refl _)
      | (with_reducible exact LeO.none _)
      | (with_reducible refine LeO.ite ?_ ?_)
      | (with_reducible refine LeO.bind ?_ (fun _ => ?_))
      | exact ih0 _ _ _
      | exact ih1 _ _ _
      | exact ih2 _ _ _ _
      | exact impl_WrSize.mono _ _
      | exact spec_Valid.mono _ _
      | exact LeO.none _
      | refine LeO.ite ?_ ?_
      | refine LeO.bind ?_ (fun _ => ?_)
theorem laws_FnWrSizeSum.mono : ∀ a0 a1 k, LeO (laws_FnWrSizeSum.f k a0 a1) (laws_FnWrSizeSum.f (k + 1) a0 a1) := by
  intro a0 a1 k
  obtain ⟨ih0, ih1, ih2⟩ := laws_FnWrSizeSum.mono_l k
  unfold laws_FnWrSizeSum.f
  repeat' first
      | (with_reducible exact ih0 _ _ _)
      | (with_reducible exact ih1 _ _ _)
      | (with_reducible exact ih2 _ _ _ _)
      | (with_reducible exact impl_WrSize.mono _ _)
      | (with_reducible exact spec_Valid.mono _ _)
      | (with_reducible exact LeO.refl _)
      | (with_reducible exact LeO.none _)
      | (with_reducible refine LeO.ite ?_ ?_)
      | (with_reducible refine LeO.bind ?_ (fun _ => ?_))
      | exact ih0 _ _ _
      | exact ih1 _ _ _
      | exact ih2 _ _ _ _
      | exact impl_WrSize.mono _ _
      | exact spec_Valid.mono _ _
      | exact LeO.none _
      | refine LeO.ite ?_ ?_
      | refine LeO.bind ?_ (fun _ => ?_)
set_option maxHeartbeats 8000000 in
set_option maxRecDepth 100000 in
theorem laws_FnWrSizeSum.calls (k : Nat) (a0 : ByteArray) (a1 : ByteArray) (r : Bool) (w : World) (h : laws_FnWrSizeSum.f k a0 a1 = some r) :
    Calls Try.prog 7 #[.string a0, .string a1] w fun e w' => e = .returned (.bool r) ∧ Below w.heap.size w w' := by
  have HB := Aside0.mk (Below.refl w.heap.size w)
  have H : (if (a0.size : Int) > 2147483647 then (laws_FnWrSizeSum.j0 k a0 a1 true) else (laws_FnWrSizeSum.j0 k a0 a1 (decide ((a1.size : Int) > 2147483647)))) = some r := h
  clear h
  have HC3 := Aside0.mk H
  clear H
  go_enter Try.func7, Try.ntmps7
  go_upto_region 1 with (fail)
  go_cut [15] (fun v15 wc => ∃ (kq : Nat) (x15_2 : Bool), v15 = .bool x15_2 ∧ Aside0 (laws_FnWrSizeSum.j0 kq a0 a1 x15_2 = some r) ∧ Aside0 (kq ≤ k) ∧ Aside0 (Below w.heap.size w wc))
  case first =>
    have H := HC3.out
    clear HC3
    by_cases c4 : (a0.size : Int) > 2147483647
    · rw [if_pos c4] at H
      have c4b0 : decide (2147483647 < (a0.size : Int)) = true := decide_eq_true c4
      have c4b1 : decide (2147483647 < a0.size) = true := decide_eq_true (by omega)
      clear c4
      (first | rw [c4b0] | (simp only [i64_w, i32_w]; rw [c4b0]) | skip)
      have H' := Aside0.mk H
      clear H
      go_wp2
      go_meet
      case rel => exact ⟨_, (true), (by first | rfl | (simp; done) | (simp [*]; done)), H', ⟨by first | omega | exact Nat.le_refl _⟩, ⟨by repeat (first | (with_reducible first | exact HB.out | apply below_alloc | apply pw_below_drewN | apply below_drew1) | exact HB.out)⟩⟩
    · rw [if_neg c4] at H
      have c4b0 : decide (2147483647 < (a0.size : Int)) = false := decide_eq_false c4
      have c4b1 : decide (2147483647 < a0.size) = false := decide_eq_false (by omega)
      clear c4
      (first | rw [c4b0] | (simp only [i64_w, i32_w]; rw [c4b0]) | skip)
      have H' := Aside0.mk H
      clear H
      go_wp2
      go_meet
      case rel => exact ⟨_, (decide ((a1.size : Int) > 2147483647)), (by first | rfl | (simp; done) | (simp [*]; done)), H', ⟨by first | omega | exact Nat.le_refl _⟩, ⟨by repeat (first | (with_reducible first | exact HB.out | apply below_alloc | apply pw_below_drewN | apply below_drew1) | exact HB.out)⟩⟩
  case rest =>
    clear HC3
    try clear p2
    try clear c4
    try clear c4b0
    try clear c4b1
    obtain ⟨kq, x15_2, rfl, HA, HJ2, HB⟩ := hcut
    cases kq with
    | zero => exact absurd HA.out (by simp [laws_FnWrSizeSum.j0])
    | succ kj2 =>
      have H := HA.out
      clear HA
      simp only [laws_FnWrSizeSum.j0] at H
      by_cases c5 : x15_2 = true
      · subst c5
        have H1 : (some true) = some r := by rw [if_pos rfl] at H; exact H
        clear H
        have H := H1
        clear H1
        obtain rfl := Option.some.inj H
        go_wp2
        go_ret
        exact ⟨by first | rfl | (simp [errW_none, errW_some] <;> rfl) | (simp [*, errW_none, errW_some] <;> rfl), by repeat (first | (with_reducible first | exact HB.out | apply below_alloc | apply pw_below_drewN | apply below_drew1) | exact HB.out)⟩
      · replace c5 := Bool.eq_false_iff.mpr c5
        subst c5
        have H1 : ((spec_Valid.f kj2 a0).bind fun t126 => (if t126 = true then ((spec_Valid.f kj2 a1).bind fun t127 => (if t127 = true then (if a0.toList = ([] : List UInt8) then (laws_FnWrSizeSum.j1 kj2 a0 a1 true) else (if a1.toList = ([] : List UInt8) then (laws_FnWrSizeSum.j1 kj2 a0 a1 true) else (if a0.size + a1.size ≤ 9223372036854775807 then ((spec_Valid.f kj2 (a0 ++ a1)).bind fun t128 => (laws_FnWrSizeSum.j1 kj2 a0 a1 (!t128))) else (none)))) else (laws_FnWrSizeSum.j1 kj2 a0 a1 true))) else (laws_FnWrSizeSum.j1 kj2 a0 a1 true))) = some r := by rw [if_neg (show ¬ (false = true) by decide)] at H; exact H
        clear H
        have H := H1
        clear H1
        have HC6 := Aside0.mk H
        clear H
        go_upto_region 3 with (fail)
        go_cut [38] (fun v38 wc => ∃ (kq : Nat) (x38_5 : Bool), v38 = .bool x38_5 ∧ Aside0 (laws_FnWrSizeSum.j1 kq a0 a1 x38_5 = some r) ∧ Aside0 (kq ≤ kj2) ∧ Aside0 (Below w.heap.size w wc))
        case first =>
          have H := HC6.out
          clear HC6
          replace H := Option.bind_eq_some_iff.mp H
          obtain ⟨t126, A70, H⟩ := H
          replace H : (if t126 = true then ((spec_Valid.f kj2 a1).bind fun t127 => (if t127 = true then (if a0.toList = ([] : List UInt8) then (laws_FnWrSizeSum.j1 kj2 a0 a1 true) else (if a1.toList = ([] : List UInt8) then (laws_FnWrSizeSum.j1 kj2 a0 a1 true) else (if a0.size + a1.size ≤ 9223372036854775807 then ((spec_Valid.f kj2 (a0 ++ a1)).bind fun t128 => (laws_FnWrSizeSum.j1 kj2 a0 a1 (!t128))) else (none)))) else (laws_FnWrSizeSum.j1 kj2 a0 a1 true))) else (laws_FnWrSizeSum.j1 kj2 a0 a1 true)) = some r := H
          have A7 := Aside0.mk A70
          clear A70
          by_cases c8 : t126 = true
          · subst c8
            have H1 : ((spec_Valid.f kj2 a1).bind fun t127 => (if t127 = true then (if a0.toList = ([] : List UInt8) then (laws_FnWrSizeSum.j1 kj2 a0 a1 true) else (if a1.toList = ([] : List UInt8) then (laws_FnWrSizeSum.j1 kj2 a0 a1 true) else (if a0.size + a1.size ≤ 9223372036854775807 then ((spec_Valid.f kj2 (a0 ++ a1)).bind fun t128 => (laws_FnWrSizeSum.j1 kj2 a0 a1 (!t128))) else (none)))) else (laws_FnWrSizeSum.j1 kj2 a0 a1 true))) = some r := by rw [if_pos rfl] at H; exact H
            clear H
            have H := H1
            clear H1
            replace H := Option.bind_eq_some_iff.mp H
            obtain ⟨t127, A90, H⟩ := H
            replace H : (if t127 = true then (if a0.toList = ([] : List UInt8) then (laws_FnWrSizeSum.j1 kj2 a0 a1 true) else (if a1.toList = ([] : List UInt8) then (laws_FnWrSizeSum.j1 kj2 a0 a1 true) else (if a0.size + a1.size ≤ 9223372036854775807 then ((spec_Valid.f kj2 (a0 ++ a1)).bind fun t128 => (laws_FnWrSizeSum.j1 kj2 a0 a1 (!t128))) else (none)))) else (laws_FnWrSizeSum.j1 kj2 a0 a1 true)) = some r := H
            have A9 := Aside0.mk A90
            clear A90
            by_cases c10 : t127 = true
            · subst c10
              have H1 : (if a0.toList = ([] : List UInt8) then (laws_FnWrSizeSum.j1 kj2 a0 a1 true) else (if a1.toList = ([] : List UInt8) then (laws_FnWrSizeSum.j1 kj2 a0 a1 true) else (if a0.size + a1.size ≤ 9223372036854775807 then ((spec_Valid.f kj2 (a0 ++ a1)).bind fun t128 => (laws_FnWrSizeSum.j1 kj2 a0 a1 (!t128))) else (none)))) = some r := by rw [if_pos rfl] at H; exact H
              clear H
              have H := H1
              clear H1
              by_cases c11 : a0.toList = ([] : List UInt8)
              · rw [if_pos c11] at H
                have c11b0 : (a0.toList == ([] : List UInt8)) = true := beq_iff_eq.mpr c11
                have c11b1 : (a0.toList != ([] : List UInt8)) = false := bne_eq_false_iff_eq.mpr c11
                clear c11
                (first | rw [c11b0] | (simp only [i64_w, i32_w]; rw [c11b0]) | skip)
                have H' := Aside0.mk H
                clear H
                go_wp2_with (first | ((with_reducible refine gate_callee (f := 16) rfl ?_); refine goesL_ (some 17) rfl rfl Try.func16 (by kernel_rfl) rfl #[.string a0] rfl (by (try simp only [List.map_toArray, List.map_cons, List.map_nil]); first | done | rfl | (simp only [List.length_drop, List.length_take]; rfl)) ?_; (with_reducible refine (spec_Valid.calls kj2 a0 true _ A7.out).mono ?_); rintro e w12 ⟨rfl, hb⟩; refine ⟨_, rfl, ?_⟩; have n0_ := Aside0.mk (below_step (by repeat (first | (with_reducible first | exact HB.out | apply below_alloc | apply pw_below_drewN | apply below_drew1) | exact HB.out)) hb); clear HB; have HB := n0_; clear n0_; (try clear hb); (try clear hb2); (try clear hk); (try clear hi)) | (go_at_call 16; (with_reducible refine (spec_Valid.calls kj2 a1 true _ A9.out).mono ?_); rintro e w13 ⟨rfl, hb⟩; have n0_ := Aside0.mk (below_step (by repeat (first | (with_reducible first | exact HB.out | apply below_alloc | apply pw_below_drewN | apply below_drew1) | exact HB.out)) hb); clear HB; have HB := n0_; clear n0_; (try clear hb); (try clear hb2); (try clear hk); (try clear hi)))
                go_meet
                case rel => exact ⟨_, (true), (by first | rfl | (simp; done) | (simp [*]; done)), H', ⟨by have := HJ2.out; first | omega | exact Nat.le_refl _⟩, ⟨by repeat (first | (with_reducible first | exact HB.out | apply below_alloc | apply pw_below_drewN | apply below_drew1) | exact HB.out)⟩⟩
              · rw [if_neg c11] at H
                have c11b0 : (a0.toList == ([] : List UInt8)) = false := beq_eq_false_iff_ne.mpr c11
                have c11b1 : (a0.toList != ([] : List UInt8)) = true := bne_iff_ne.mpr c11
                (first | rw [c11b0] | (simp only [i64_w, i32_w]; rw [c11b0]) | skip)
                by_cases c14 : a1.toList = ([] : List UInt8)
                · rw [if_pos c14] at H
                  have c14b0 : (a1.toList == ([] : List UInt8)) = true := beq_iff_eq.mpr c14
                  have c14b1 : (a1.toList != ([] : List UInt8)) = false := bne_eq_false_iff_eq.mpr c14
                  clear c14
                  have H' := Aside0.mk H
                  clear H
                  go_wp2_with (first | ((with_reducible refine gate_callee (f := 16) rfl ?_); refine goesL_ (some 17) rfl rfl Try.func16 (by kernel_rfl) rfl #[.string a0] rfl (by (try simp only [List.map_toArray, List.map_cons, List.map_nil]); first | done | rfl | (simp only [List.length_drop, List.length_take]; rfl)) ?_; (with_reducible refine (spec_Valid.calls kj2 a0 true _ A7.out).mono ?_); rintro e w15 ⟨rfl, hb⟩; refine ⟨_, rfl, ?_⟩; have n0_ := Aside0.mk (below_step (by repeat (first | (with_reducible first | exact HB.out | apply below_alloc | apply pw_below_drewN | apply below_drew1) | exact HB.out)) hb); clear HB; have HB := n0_; clear n0_; (try clear hb); (try clear hb2); (try clear hk); (try clear hi)) | (go_at_call 16; (with_reducible refine (spec_Valid.calls kj2 a1 true _ A9.out).mono ?_); rintro e w16 ⟨rfl, hb⟩; have n0_ := Aside0.mk (below_step (by repeat (first | (with_reducible first | exact HB.out | apply below_alloc | apply pw_below_drewN | apply below_drew1) | exact HB.out)) hb); clear HB; have HB := n0_; clear n0_; (try clear hb); (try clear hb2); (try clear hk); (try clear hi)))
                  go_meet
                  case rel => exact ⟨_, (true), (by first | rfl | (simp; done) | (simp [*]; done)), H', ⟨by have := HJ2.out; first | omega | exact Nat.le_refl _⟩, ⟨by repeat (first | (with_reducible first | exact HB.out | apply below_alloc | apply pw_below_drewN | apply below_drew1) | exact HB.out)⟩⟩
                · rw [if_neg c14] at H
                  have c14b0 : (a1.toList == ([] : List UInt8)) = false := beq_eq_false_iff_ne.mpr c14
                  have c14b1 : (a1.toList != ([] : List UInt8)) = true := bne_iff_ne.mpr c14
                  by_cases c17 : a0.size + a1.size ≤ 9223372036854775807
                  · rw [if_pos c17] at H
                    have c17b0 := eq_true c17
                    have c17b1 : decide (a0.size + a1.size ≤ 9223372036854775807) = true := decide_eq_true c17
                    try have c17b2 : (9223372036854775807 < a0.size + a1.size) = False := eq_false (Nat.not_lt.2 c17)
                    try (have c17b3 := c17b2; simp only [ByteArray.size_append] at c17b3)
                    replace H := Option.bind_eq_some_iff.mp H
                    obtain ⟨t128, A180, H⟩ := H
                    replace H : (laws_FnWrSizeSum.j1 kj2 a0 a1 (!t128)) = some r := H
                    have A18 := Aside0.mk A180
                    clear A180
                    have H' := Aside0.mk H
                    clear H
                    go_wp2_with (first | ((with_reducible refine gate_callee (f := 16) rfl ?_); refine goesL_ (some 17) rfl rfl Try.func16 (by kernel_rfl) rfl #[.string a0] rfl (by (try simp only [List.map_toArray, List.map_cons, List.map_nil]); first | done | rfl | (simp only [List.length_drop, List.length_take]; rfl)) ?_; (with_reducible refine (spec_Valid.calls kj2 a0 true _ A7.out).mono ?_); rintro e w19 ⟨rfl, hb⟩; refine ⟨_, rfl, ?_⟩; have n0_ := Aside0.mk (below_step (by repeat (first | (with_reducible first | exact HB.out | apply below_alloc | apply pw_below_drewN | apply below_drew1) | exact HB.out)) hb); clear HB; have HB := n0_; clear n0_; (try clear hb); (try clear hb2); (try clear hk); (try clear hi)) | (go_at_call 16; (with_reducible refine (spec_Valid.calls kj2 a1 true _ A9.out).mono ?_); rintro e w20 ⟨rfl, hb⟩; have n0_ := Aside0.mk (below_step (by repeat (first | (with_reducible first | exact HB.out | apply below_alloc | apply pw_below_drewN | apply below_drew1) | exact HB.out)) hb); clear HB; have HB := n0_; clear n0_; (try clear hb); (try clear hb2); (try clear hk); (try clear hi)) | (go_at_call 16; (with_reducible refine (spec_Valid.calls kj2 (a0 ++ a1) t128 _ A18.out).mono ?_); rintro e w21 ⟨rfl, hb⟩; have n0_ := Aside0.mk (below_step (by repeat (first | (with_reducible first | exact HB.out | apply below_alloc | apply pw_below_drewN | apply below_drew1) | exact HB.out)) hb); clear HB; have HB := n0_; clear n0_; (try clear hb); (try clear hb2); (try clear hk); (try clear hi)))
                    go_meet
                    case rel => exact ⟨_, (!t128), (by first | rfl | (simp; done) | (simp [*]; done)), H', ⟨by have := HJ2.out; first | omega | exact Nat.le_refl _⟩, ⟨by repeat (first | (with_reducible first | exact HB.out | apply below_alloc | apply pw_below_drewN | apply below_drew1) | exact HB.out)⟩⟩
                  · rw [if_neg c17] at H
                    exact absurd H (by simp)
            · replace c10 := Bool.eq_false_iff.mpr c10
              subst c10
              have H1 : (laws_FnWrSizeSum.j1 kj2 a0 a1 true) = some r := by rw [if_neg (show ¬ (false = true) by decide)] at H; exact H
              clear H
              have H := H1
              clear H1
              have H' := Aside0.mk H
              clear H
              go_wp2_with (first | ((with_reducible refine gate_callee (f := 16) rfl ?_); refine goesL_ (some 17) rfl rfl Try.func16 (by kernel_rfl) rfl #[.string a0] rfl (by (try simp only [List.map_toArray, List.map_cons, List.map_nil]); first | done | rfl | (simp only [List.length_drop, List.length_take]; rfl)) ?_; (with_reducible refine (spec_Valid.calls kj2 a0 true _ A7.out).mono ?_); rintro e w22 ⟨rfl, hb⟩; refine ⟨_, rfl, ?_⟩; have n0_ := Aside0.mk (below_step (by repeat (first | (with_reducible first | exact HB.out | apply below_alloc | apply pw_below_drewN | apply below_drew1) | exact HB.out)) hb); clear HB; have HB := n0_; clear n0_; (try clear hb); (try clear hb2); (try clear hk); (try clear hi)) | (go_at_call 16; (with_reducible refine (spec_Valid.calls kj2 a1 false _ A9.out).mono ?_); rintro e w23 ⟨rfl, hb⟩; have n0_ := Aside0.mk (below_step (by repeat (first | (with_reducible first | exact HB.out | apply below_alloc | apply pw_below_drewN | apply below_drew1) | exact HB.out)) hb); clear HB; have HB := n0_; clear n0_; (try clear hb); (try clear hb2); (try clear hk); (try clear hi)))
              go_meet
              case rel => exact ⟨_, (true), (by first | rfl | (simp; done) | (simp [*]; done)), H', ⟨by have := HJ2.out; first | omega | exact Nat.le_refl _⟩, ⟨by repeat (first | (with_reducible first | exact HB.out | apply below_alloc | apply pw_below_drewN | apply below_drew1) | exact HB.out)⟩⟩
          · replace c8 := Bool.eq_false_iff.mpr c8
            subst c8
            have H1 : (laws_FnWrSizeSum.j1 kj2 a0 a1 true) = some r := by rw [if_neg (show ¬ (false = true) by decide)] at H; exact H
            clear H
            have H := H1
            clear H1
            have H' := Aside0.mk H
            clear H
            go_wp2_with (first | ((with_reducible refine gate_callee (f := 16) rfl ?_); refine goesL_ (some 17) rfl rfl Try.func16 (by kernel_rfl) rfl #[.string a0] rfl (by (try simp only [List.map_toArray, List.map_cons, List.map_nil]); first | done | rfl | (simp only [List.length_drop, List.length_take]; rfl)) ?_; (with_reducible refine (spec_Valid.calls kj2 a0 false _ A7.out).mono ?_); rintro e w24 ⟨rfl, hb⟩; refine ⟨_, rfl, ?_⟩; have n0_ := Aside0.mk (below_step (by repeat (first | (with_reducible first | exact HB.out | apply below_alloc | apply pw_below_drewN | apply below_drew1) | exact HB.out)) hb); clear HB; have HB := n0_; clear n0_; (try clear hb); (try clear hb2); (try clear hk); (try clear hi)))
            go_meet
            case rel => exact ⟨_, (true), (by first | rfl | (simp; done) | (simp [*]; done)), H', ⟨by have := HJ2.out; first | omega | exact Nat.le_refl _⟩, ⟨by repeat (first | (with_reducible first | exact HB.out | apply below_alloc | apply pw_below_drewN | apply below_drew1) | exact HB.out)⟩⟩
        case rest =>
          clear HC6
          try clear c1
          try clear p2
          try clear c4
          try clear c4b0
          try clear c4b1
          try clear c5
          try clear c7
          try clear c8
          try clear c10
          try clear c11
          try clear c11b0
          try clear c11b1
          try clear c14
          try clear c14b0
          try clear c14b1
          try clear c16
          try clear c17
          try clear c17b0
          try clear c17b1
          try clear c17b2
          try clear p2
          obtain ⟨kq, x38_5, rfl, HA, HJ5, HB⟩ := hcut
          cases kq with
          | zero => exact absurd HA.out (by simp [laws_FnWrSizeSum.j1])
          | succ kj5 =>
            have H := HA.out
            clear HA
            simp only [laws_FnWrSizeSum.j1] at H
            by_cases c25 : x38_5 = true
            · subst c25
              have H1 : (some true) = some r := by rw [if_pos rfl] at H; exact H
              clear H
              have H := H1
              clear H1
              obtain rfl := Option.some.inj H
              go_wp2
              go_ret
              exact ⟨by first | rfl | (simp [errW_none, errW_some] <;> rfl) | (simp [*, errW_none, errW_some] <;> rfl), by repeat (first | (with_reducible first | exact HB.out | apply below_alloc | apply pw_below_drewN | apply below_drew1) | exact HB.out)⟩
            · replace c25 := Bool.eq_false_iff.mpr c25
              subst c25
              have H1 : ((impl_WrSize.f kj5 a0).bind fun t129 => ((impl_WrSize.f kj5 a1).bind fun t130 => (if t129 = 0 then (laws_FnWrSizeSum.j2 kj5 a0 a1 (wrap64 (t129 + t130)) true) else (laws_FnWrSizeSum.j2 kj5 a0 a1 (wrap64 (t129 + t130)) (t130 == 0))))) = some r := by rw [if_neg (show ¬ (false = true) by decide)] at H; exact H
              clear H
              have H := H1
              clear H1
              replace H := Option.bind_eq_some_iff.mp H
              obtain ⟨t129, A260, H⟩ := H
              replace H : ((impl_WrSize.f kj5 a1).bind fun t130 => (if t129 = 0 then (laws_FnWrSizeSum.j2 kj5 a0 a1 (wrap64 (t129 + t130)) true) else (laws_FnWrSizeSum.j2 kj5 a0 a1 (wrap64 (t129 + t130)) (t130 == 0)))) = some r := H
              have A26 := Aside0.mk A260
              clear A260
              replace H := Option.bind_eq_some_iff.mp H
              obtain ⟨t130, A270, H⟩ := H
              replace H : (if t129 = 0 then (laws_FnWrSizeSum.j2 kj5 a0 a1 (wrap64 (t129 + t130)) true) else (laws_FnWrSizeSum.j2 kj5 a0 a1 (wrap64 (t129 + t130)) (t130 == 0))) = some r := H
              have A27 := Aside0.mk A270
              clear A270
              have HC28 := Aside0.mk H
              clear H
              go_upto_region 7 with (first | ((with_reducible refine gate_callee (f := 17) rfl ?_); refine goesL_ (some 40) rfl rfl Try.func17 (by kernel_rfl) rfl #[.string a0] rfl (by (try simp only [List.map_toArray, List.map_cons, List.map_nil]); first | done | rfl | (simp only [List.length_drop, List.length_take]; rfl)) ?_; (with_reducible refine (impl_WrSize.calls kj5 a0 t129 _ A26.out).mono ?_); rintro e w' ⟨rfl, ⟨nd, rfl⟩⟩; refine ⟨_, rfl, ?_⟩) | ((with_reducible refine gate_callee (f := 17) rfl ?_); refine goesL_ (some 42) rfl rfl Try.func17 (by kernel_rfl) rfl #[.string a1] rfl (by (try simp only [List.map_toArray, List.map_cons, List.map_nil]); first | done | rfl | (simp only [List.length_drop, List.length_take]; rfl)) ?_; (with_reducible refine (impl_WrSize.calls kj5 a1 t130 _ A27.out).mono ?_); rintro e w' ⟨rfl, ⟨nd, rfl⟩⟩; refine ⟨_, rfl, ?_⟩))
              (try simp only [Act.put, List.setIfInBounds_toArray, List.set_cons_zero, List.set_cons_succ])
              go_cut [51] (fun v51 wc => ∃ (kq : Nat) (x51_27 : Bool), v51 = .bool x51_27 ∧ Aside0 (laws_FnWrSizeSum.j2 kq a0 a1 (wrap64 (t129 + t130)) x51_27 = some r) ∧ Aside0 (kq ≤ kj5) ∧ Aside0 (Below w.heap.size w wc))
              case first =>
                have H := HC28.out
                clear HC28
                by_cases c29 : t129 = 0
                · rw [if_pos c29] at H
                  have c29b0 : (t129 == 0) = true := beq_iff_eq.mpr c29
                  have c29b1 : (t129 != 0) = false := bne_eq_false_iff_eq.mpr c29
                  clear c29
                  (first | rw [c29b0] | (simp only [i64_w, i32_w]; rw [c29b0]) | skip)
                  have H' := Aside0.mk H
                  clear H
                  go_wp2
                  go_meet
                  case rel => exact ⟨_, (true), (by first | rfl | (simp; done) | (simp [*]; done)), H', ⟨by have := HJ2.out; have := HJ5.out; first | omega | exact Nat.le_refl _⟩, ⟨by repeat (first | (with_reducible first | exact HB.out | apply below_alloc | apply pw_below_drewN | apply below_drew1) | exact HB.out)⟩⟩
                · rw [if_neg c29] at H
                  have c29b0 : (t129 == 0) = false := beq_eq_false_iff_ne.mpr c29
                  have c29b1 : (t129 != 0) = true := bne_iff_ne.mpr c29
                  (first | rw [c29b0] | (simp only [i64_w, i32_w]; rw [c29b0]) | skip)
                  have H' := Aside0.mk H
                  clear H
                  go_wp2
                  go_meet
                  case rel => exact ⟨_, ((t130 == 0)), (by first | rfl | (simp; done) | (simp [*]; done)), H', ⟨by have := HJ2.out; have := HJ5.out; first | omega | exact Nat.le_refl _⟩, ⟨by repeat (first | (with_reducible first | exact HB.out | apply below_alloc | apply pw_below_drewN | apply below_drew1) | exact HB.out)⟩⟩
              case rest =>
                clear HC28
                try clear c1
                try clear c2
                try clear p2
                try clear c4
                try clear c4b0
                try clear c4b1
                try clear c5
                try clear p6
                try clear c7
                try clear c8
                try clear c10
                try clear c11
                try clear c11b0
                try clear c11b1
                try clear c14
                try clear c14b0
                try clear c14b1
                try clear c16
                try clear c17
                try clear c17b0
                try clear c17b1
                try clear c17b2
                try clear c25
                try clear c29
                try clear c29b0
                try clear c29b1
                try clear p2
                obtain ⟨kq, x51_27, rfl, HA, HJ27, HB⟩ := hcut
                cases kq with
                | zero => exact absurd HA.out (by simp [laws_FnWrSizeSum.j2])
                | succ kj27 =>
                  have H := HA.out
                  clear HA
                  simp only [laws_FnWrSizeSum.j2] at H
                  by_cases c30 : x51_27 = true
                  · subst c30
                    have H1 : (if a0.size + a1.size ≤ 9223372036854775807 then ((impl_WrSize.f kj27 (a0 ++ a1)).bind fun t131 => (if t131 = 0 then ((impl_WrSize.f kj27 (⟨#[100]⟩ : ByteArray)).bind fun t132 => (some (t132 == 8))) else (some false))) else (none)) = some r := by rw [if_pos rfl] at H; exact H
                    clear H
                    have H := H1
                    clear H1
                    by_cases c31 : a0.size + a1.size ≤ 9223372036854775807
                    · rw [if_pos c31] at H
                      have c31b0 := eq_true c31
                      have c31b1 : decide (a0.size + a1.size ≤ 9223372036854775807) = true := decide_eq_true c31
                      try have c31b2 : (9223372036854775807 < a0.size + a1.size) = False := eq_false (Nat.not_lt.2 c31)
                      try (have c31b3 := c31b2; simp only [ByteArray.size_append] at c31b3)
                      replace H := Option.bind_eq_some_iff.mp H
                      obtain ⟨t131, A320, H⟩ := H
                      replace H : (if t131 = 0 then ((impl_WrSize.f kj27 (⟨#[100]⟩ : ByteArray)).bind fun t132 => (some (t132 == 8))) else (some false)) = some r := H
                      have A32 := Aside0.mk A320
                      clear A320
                      by_cases c33 : t131 = 0
                      · rw [if_pos c33] at H
                        have c33b0 : (t131 == 0) = true := beq_iff_eq.mpr c33
                        have c33b1 : (t131 != 0) = false := bne_eq_false_iff_eq.mpr c33
                        clear c33
                        replace H := Option.bind_eq_some_iff.mp H
                        obtain ⟨t132, A340, H⟩ := H
                        replace H : (some (t132 == 8)) = some r := H
                        have A34 := Aside0.mk A340
                        clear A340
                        obtain rfl := Option.some.inj H
                        go_wp2_with (first | ((with_reducible refine gate_callee (f := 17) rfl ?_); refine goesL_ (some 55) rfl rfl Try.func17 (by kernel_rfl) rfl #[.string (a0 ++ a1)] rfl (by (try simp only [List.map_toArray, List.map_cons, List.map_nil]); first | done | rfl | (simp only [List.length_drop, List.length_take]; rfl)) ?_; (with_reducible refine (impl_WrSize.calls kj27 (a0 ++ a1) t131 _ A32.out).mono ?_); rintro e w' ⟨rfl, ⟨nd, rfl⟩⟩; refine ⟨_, rfl, ?_⟩) | (go_at_call 17; (with_reducible refine (impl_WrSize.calls kj27 (⟨#[100]⟩ : ByteArray) t132 _ A34.out).mono ?_); rintro e w' ⟨rfl, ⟨nd, rfl⟩⟩))
                        go_ret
                        exact ⟨by first | rfl | (simp [errW_none, errW_some] <;> rfl) | (simp [*, errW_none, errW_some] <;> rfl), by repeat (first | (with_reducible first | exact HB.out | apply below_alloc | apply pw_below_drewN | apply below_drew1) | exact HB.out)⟩
                      · rw [if_neg c33] at H
                        have c33b0 : (t131 == 0) = false := beq_eq_false_iff_ne.mpr c33
                        have c33b1 : (t131 != 0) = true := bne_iff_ne.mpr c33
                        obtain rfl := Option.some.inj H
                        go_wp2_with (first | ((with_reducible refine gate_callee (f := 17) rfl ?_); refine goesL_ (some 55) rfl rfl Try.func17 (by kernel_rfl) rfl #[.string (a0 ++ a1)] rfl (by (try simp only [List.map_toArray, List.map_cons, List.map_nil]); first | done | rfl | (simp only [List.length_drop, List.length_take]; rfl)) ?_; (with_reducible refine (impl_WrSize.calls kj27 (a0 ++ a1) t131 _ A32.out).mono ?_); rintro e w' ⟨rfl, ⟨nd, rfl⟩⟩; refine ⟨_, rfl, ?_⟩))
                        go_ret
                        exact ⟨by first | rfl | (simp [errW_none, errW_some] <;> rfl) | (simp [*, errW_none, errW_some] <;> rfl), by repeat (first | (with_reducible first | exact HB.out | apply below_alloc | apply pw_below_drewN | apply below_drew1) | exact HB.out)⟩
                    · rw [if_neg c31] at H
                      exact absurd H (by simp)
                  · replace c30 := Bool.eq_false_iff.mpr c30
                    subst c30
                    have H1 : (if a0.size + a1.size ≤ 9223372036854775807 then ((impl_WrSize.f kj27 (a0 ++ a1)).bind fun t133 => (if t133 = (wrap64 (t129 + t130)) then ((impl_WrSize.f kj27 (⟨#[100]⟩ : ByteArray)).bind fun t134 => (some (t134 == 8))) else (some false))) else (none)) = some r := by rw [if_neg (show ¬ (false = true) by decide)] at H; exact H
                    clear H
                    have H := H1
                    clear H1
                    by_cases c35 : a0.size + a1.size ≤ 9223372036854775807
                    · rw [if_pos c35] at H
                      have c35b0 := eq_true c35
                      have c35b1 : decide (a0.size + a1.size ≤ 9223372036854775807) = true := decide_eq_true c35
                      try have c35b2 : (9223372036854775807 < a0.size + a1.size) = False := eq_false (Nat.not_lt.2 c35)
                      try (have c35b3 := c35b2; simp only [ByteArray.size_append] at c35b3)
                      replace H := Option.bind_eq_some_iff.mp H
                      obtain ⟨t133, A360, H⟩ := H
                      replace H : (if t133 = (wrap64 (t129 + t130)) then ((impl_WrSize.f kj27 (⟨#[100]⟩ : ByteArray)).bind fun t134 => (some (t134 == 8))) else (some false)) = some r := H
                      have A36 := Aside0.mk A360
                      clear A360
                      by_cases c37 : t133 = (wrap64 (t129 + t130))
                      · rw [if_pos c37] at H
                        have c37b0 : (t133 == (wrap64 (t129 + t130))) = true := beq_iff_eq.mpr c37
                        have c37b1 : (t133 != (wrap64 (t129 + t130))) = false := bne_eq_false_iff_eq.mpr c37
                        clear c37
                        replace H := Option.bind_eq_some_iff.mp H
                        obtain ⟨t134, A380, H⟩ := H
                        replace H : (some (t134 == 8)) = some r := H
                        have A38 := Aside0.mk A380
                        clear A380
                        obtain rfl := Option.some.inj H
                        go_wp2_with (first | ((with_reducible refine gate_callee (f := 17) rfl ?_); refine goesL_ (some 55) rfl rfl Try.func17 (by kernel_rfl) rfl #[.string (a0 ++ a1)] rfl (by (try simp only [List.map_toArray, List.map_cons, List.map_nil]); first | done | rfl | (simp only [List.length_drop, List.length_take]; rfl)) ?_; (with_reducible refine (impl_WrSize.calls kj27 (a0 ++ a1) t133 _ A36.out).mono ?_); rintro e w' ⟨rfl, ⟨nd, rfl⟩⟩; refine ⟨_, rfl, ?_⟩) | (go_at_call 17; (with_reducible refine (impl_WrSize.calls kj27 (⟨#[100]⟩ : ByteArray) t134 _ A38.out).mono ?_); rintro e w' ⟨rfl, ⟨nd, rfl⟩⟩))
                        go_ret
                        exact ⟨by first | rfl | (simp [errW_none, errW_some] <;> rfl) | (simp [*, errW_none, errW_some] <;> rfl), by repeat (first | (with_reducible first | exact HB.out | apply below_alloc | apply pw_below_drewN | apply below_drew1) | exact HB.out)⟩
                      · rw [if_neg c37] at H
                        have c37b0 : (t133 == (wrap64 (t129 + t130))) = false := beq_eq_false_iff_ne.mpr c37
                        have c37b1 : (t133 != (wrap64 (t129 + t130))) = true := bne_iff_ne.mpr c37
                        obtain rfl := Option.some.inj H
                        go_wp2_with (first | ((with_reducible refine gate_callee (f := 17) rfl ?_); refine goesL_ (some 55) rfl rfl Try.func17 (by kernel_rfl) rfl #[.string (a0 ++ a1)] rfl (by (try simp only [List.map_toArray, List.map_cons, List.map_nil]); first | done | rfl | (simp only [List.length_drop, List.length_take]; rfl)) ?_; (with_reducible refine (impl_WrSize.calls kj27 (a0 ++ a1) t133 _ A36.out).mono ?_); rintro e w' ⟨rfl, ⟨nd, rfl⟩⟩; refine ⟨_, rfl, ?_⟩))
                        go_ret
                        exact ⟨by first | rfl | (simp [errW_none, errW_some] <;> rfl) | (simp [*, errW_none, errW_some] <;> rfl), by repeat (first | (with_reducible first | exact HB.out | apply below_alloc | apply pw_below_drewN | apply below_drew1) | exact HB.out)⟩
                    · rw [if_neg c35] at H
                      exact absurd H (by simp)

/-- THE ONE PURE STATEMENT of laws_FnWrSizeSum: yours. -/
def laws_FnWrSizeSum.Pure : Prop := ∀ (a0 : ByteArray) (a1 : ByteArray), a0.size ≤ 140737488351232 → a1.size ≤ 140737488351232 → ∃ k, laws_FnWrSizeSum.f k a0 a1 = some true
theorem laws_FnWrSizeSum.walk (P : laws_FnWrSizeSum.Pure) (a0 : ByteArray) (a1 : ByteArray) (w : World) (w0 : a0.size ≤ 140737488351232) (w1 : a1.size ≤ 140737488351232) :
    Calls Try.prog 7 #[.string a0, .string a1] w fun e w' => e = .returned (.bool true) ∧ Below w.heap.size w w' := by
  obtain ⟨k, h⟩ := P a0 a1 w0 w1
  refine (laws_FnWrSizeSum.calls k a0 a1 true w h).mono ?_
  rintro e w' ⟨rfl, hd⟩
  exact ⟨rfl, hd⟩

end Go.Proofs.Ytpndgbiaomglpaa.Q
