-- Written by a program of this session out of the translation; Lean checks it.
import Derived.Test.YtheopfecoakhnaaQ0
import Derived.Test.YtheopfecoakhnaaQ1
namespace Go.Proofs.Ytheopfecoakhnaa.Q
open Go.RowKit Go.Proofs.Ytheopfecoakhnaa.Ext Go.Proofs.YtheopfecoakhnaaW.PrintWords Go.Proofs.YtheopfecoakhnaaW.PrintLast Go.Proofs.YtheopfecoakhnaaW.PrintMore
attribute [local go_sem] max2_int min2_int max_two min_two max_three min_three max_four min_four   -- for this text's walks alone
set_option linter.unusedVariables false
set_option linter.unusedSimpArgs false

/-! ### laws_FnNmPathParts: function 3 -/
mutual
def laws_FnNmPathParts.j0 : Nat → ByteArray → ByteArray → Bool → Option (Bool)
  | 0, _, _, _ => none
  | k + 1, x0, x1, x17 => if x17 = true then (some true) else (if (wrap64 ((x0.size : Int) + (x1.size : Int))) > 4096 then (laws_FnNmPathParts.j1 k x0 x1 true) else ((spec_ValidPath.f k x0).bind fun t103 => (laws_FnNmPathParts.j1 k x0 x1 (!t103))))
def laws_FnNmPathParts.j1 : Nat → ByteArray → ByteArray → Bool → Option (Bool)
  | 0, _, _, _ => none
  | k + 1, x0, x1, x28 => if x28 = true then (some true) else (laws_FnNmPathParts.l0 k x0 x1 (x1.toList != ([] : List UInt8)) 0)
def laws_FnNmPathParts.l0 : Nat → ByteArray → ByteArray → Bool → Int → Option (Bool)
  | 0, _, _, _, _ => none
  | k + 1, x0, x1, x5, x6 => if x6 < (x1.size : Int) then (if 0 ≤ x6 then (if (bt x1 x6) = 47 then (some true) else (if x5 = true then (if (Go.bits .or .u8 (bt x1 x6) 32) ≥ 97 then (if (Go.bits .or .u8 (bt x1 x6) 32) ≤ 122 then (laws_FnNmPathParts.l0 k x0 x1 true (wrap64 (x6 + 1))) else (if (bt x1 x6) ≥ 48 then (if (bt x1 x6) ≤ 57 then (laws_FnNmPathParts.l0 k x0 x1 true (wrap64 (x6 + 1))) else (laws_FnNmPathParts.l0 k x0 x1 ((bt x1 x6) == 95) (wrap64 (x6 + 1)))) else (laws_FnNmPathParts.l0 k x0 x1 ((bt x1 x6) == 95) (wrap64 (x6 + 1))))) else (if (bt x1 x6) ≥ 48 then (if (bt x1 x6) ≤ 57 then (laws_FnNmPathParts.l0 k x0 x1 true (wrap64 (x6 + 1))) else (laws_FnNmPathParts.l0 k x0 x1 ((bt x1 x6) == 95) (wrap64 (x6 + 1)))) else (laws_FnNmPathParts.l0 k x0 x1 ((bt x1 x6) == 95) (wrap64 (x6 + 1))))) else (laws_FnNmPathParts.l0 k x0 x1 false (wrap64 (x6 + 1))))) else (none)) else (if x0.size + 1 ≤ 9223372036854775807 then (if (x0 ++ (⟨#[47]⟩ : ByteArray)).size + x1.size ≤ 9223372036854775807 then (if x0.toList = ([47] : List UInt8) then (if x0.size + x1.size ≤ 9223372036854775807 then (laws_FnNmPathParts.j3 k x0 x5 (x0 ++ x1)) else (none)) else (laws_FnNmPathParts.j3 k x0 x5 ((x0 ++ (⟨#[47]⟩ : ByteArray)) ++ x1))) else (none)) else (none))
def laws_FnNmPathParts.j3 : Nat → ByteArray → Bool → ByteArray → Option (Bool)
  | 0, _, _, _ => none
  | k + 1, x0, x5, x8 => (impl_NmPath.f k x0).bind fun t104 => (if t104 = true then ((impl_NmPath.f k x8).bind fun t105 => (if (t105 != x5) = true then (laws_FnNmPathParts.j4 k x0 (x8.toList != ([47] : List UInt8))) else (laws_FnNmPathParts.j4 k x0 false))) else (laws_FnNmPathParts.j4 k x0 true))
def laws_FnNmPathParts.j4 : Nat → ByteArray → Bool → Option (Bool)
  | 0, _, _ => none
  | k + 1, x0, x86 => if x86 = true then (some false) else (laws_FnNmPathParts.l1 k x0 1)
def laws_FnNmPathParts.l1 : Nat → ByteArray → Int → Option (Bool)
  | 0, _, _ => none
  | k + 1, x0, x9 => if x9 < (x0.size : Int) then (if 0 ≤ x9 then (if (bt x0 x9) = 47 then (if x9 ≤ (x0.size : Int) then ((impl_NmPath.f k (x0.extract 0 (x9 : Int).toNat)).bind fun t106 => (if t106 = true then (laws_FnNmPathParts.l1 k x0 (wrap64 (x9 + 1))) else (some false))) else (none)) else (laws_FnNmPathParts.l1 k x0 (wrap64 (x9 + 1)))) else (none)) else (some true)
end
def laws_FnNmPathParts.f (k : Nat) (a0 : ByteArray) (a1 : ByteArray) : Option (Bool) := if (a0.size : Int) > 2147483647 then (laws_FnNmPathParts.j0 k a0 a1 true) else (laws_FnNmPathParts.j0 k a0 a1 (decide ((a1.size : Int) > 2147483647)))
theorem laws_FnNmPathParts.mono_l : ∀ k, (∀ y0 y1 y2, LeO (laws_FnNmPathParts.j0 k y0 y1 y2) (laws_FnNmPathParts.j0 (k + 1) y0 y1 y2)) ∧ (∀ y0 y1 y2, LeO (laws_FnNmPathParts.j1 k y0 y1 y2) (laws_FnNmPathParts.j1 (k + 1) y0 y1 y2)) ∧ (∀ y0 y1 y2 y3, LeO (laws_FnNmPathParts.l0 k y0 y1 y2 y3) (laws_FnNmPathParts.l0 (k + 1) y0 y1 y2 y3)) ∧ (∀ y0 y1 y2, LeO (laws_FnNmPathParts.j3 k y0 y1 y2) (laws_FnNmPathParts.j3 (k + 1) y0 y1 y2)) ∧ (∀ y0 y1, LeO (laws_FnNmPathParts.j4 k y0 y1) (laws_FnNmPathParts.j4 (k + 1) y0 y1)) ∧ (∀ y0 y1, LeO (laws_FnNmPathParts.l1 k y0 y1) (laws_FnNmPathParts.l1 (k + 1) y0 y1))
  | 0 => ⟨fun _ _ _ r h => by simp [laws_FnNmPathParts.j0] at h, fun _ _ _ r h => by simp [laws_FnNmPathParts.j1] at h, fun _ _ _ _ r h => by simp [laws_FnNmPathParts.l0] at h, fun _ _ _ r h => by simp [laws_FnNmPathParts.j3] at h, fun _ _ r h => by simp [laws_FnNmPathParts.j4] at h, fun _ _ r h => by simp [laws_FnNmPathParts.l1] at h⟩
  | k + 1 => by
    obtain ⟨ih0, ih1, ih2, ih3, ih4, ih5⟩ := laws_FnNmPathParts.mono_l k
    refine ⟨?_, ?_, ?_, ?_, ?_, ?_⟩
    · intro y0 y1 y2
      unfold laws_FnNmPathParts.j0
      repeat' first
      | (with_reducible exact ih0 _ _ _)
      | (with_reducible exact ih1 _ _ _)
      | (with_reducible exact ih2 _ _ _ _)
      | (with_reducible exact ih3 _ _ _)
      | (with_reducible exact ih4 _ _)
      | (with_reducible exact ih5 _ _)
      | (with_reducible exact impl_NmPath.mono _ _)
      | (with_reducible exact spec_ValidPath.mono _ _)
      | (with_reducible exact LeO.refl _)
      | (with_reducible exact LeO.none _)
      | (with_reducible refine LeO.ite ?_ ?_)
      | (with_reducible refine LeO.bind ?_ (fun _ => ?_))
      | exact ih0 _ _ _
      | exact ih1 _ _ _
      | exact ih2 _ _ _ _
      | exact ih3 _ _ _
      | exact ih4 _ _
      | exact ih5 _ _
      | exact impl_NmPath.mono _ _
      | exact spec_ValidPath.mono _ _
      | exact LeO.none _
      | refine LeO.ite ?_ ?_
      | refine LeO.bind ?_ (fun _ => ?_)
    · intro y0 y1 y2
      unfold laws_FnNmPathParts.j1
      repeat' first
      | (with_reducible exact ih0 _ _ _)
      | (with_reducible exact ih1 _ _ _)
      | (with_reducible exact ih2 _ _ _ _)
      | (with_reducible exact ih3 _ _ _)
      | (with_reducible exact ih4 _ _)
      | (with_reducible exact ih5 _ _)
      | (with_reducible exact impl_NmPath.mono _ _)
      | (with_reducible exact spec_ValidPath.mono _ _)
      | (with_reducible exact LeO.refl _)
      | (with_reducible exact LeO.none _)
      | (with_reducible refine LeO.ite ?_ ?_)
      | (with_reducible refine LeO.bind ?_ (fun _ => ?_))
      | exact ih0 _ _ _
      | exact ih1 _ _ _
      | exact ih2 _ _ _ _
      | exact ih3 _ _ _
      | exact ih4 _ _
      | exact ih5 _ _
      | exact impl_NmPath.mono _ _
      | exact spec_ValidPath.mono _ _
      | exact LeO.none _
      | refine LeO.ite ?_ ?_
      | refine LeO.bind ?_ (fun _ => ?_)
    · intro y0 y1 y2 y3
      unfold laws_FnNmPathParts.l0
      repeat' first
      | (with_reducible exact ih0 _ _ _)
      | (with_reducible exact ih1 _ _ _)
      | (with_reducible exact ih2 _ _ _ _)
      | (with_reducible exact ih3 _ _ _)
      | (with_reducible exact ih4 _ _)
      | (with_reducible exact ih5 _ _)
      | (with_reducible exact impl_NmPath.mono _ _)
      | (with_reducible exact spec_ValidPath.mono _ _)
      | (with_reducible exact LeO.refl _)
      | (with_reducible exact LeO.none _)
      | (with_reducible refine LeO.ite ?_ ?_)
      | (with_reducible refine LeO.bind ?_ (fun _ => ?_))
      | exact ih0 _ _ _
      | exact ih1 _ _ _
      | exact ih2 _ _ _ _
      | exact ih3 _ _ _
      | exact ih4 _ _
      | exact ih5 _ _
      | exact impl_NmPath.mono _ _
      | exact spec_ValidPath.mono _ _
      | exact LeO.none _
      | refine LeO.ite ?_ ?_
      | refine LeO.bind ?_ (fun _ => ?_)
    · intro y0 y1 y2
      unfold laws_FnNmPathParts.j3
      repeat' first
      | (with_reducible exact ih0 _ _ _)
      | (with_reducible exact ih1 _ _ _)
      | (with_reducible exact ih2 _ _ _ _)
      | (with_reducible exact ih3 _ _ _)
      | (with_reducible exact ih4 _ _)
      | (with_reducible exact ih5 _ _)
      | (with_reducible exact impl_NmPath.mono _ _)
      | (with_reducible exact spec_ValidPath.mono _ _)
      | (with_reducible exact LeO.refl _)
      | (with_reducible exact LeO.none _)
      | (with_reducible refine LeO.ite ?_ ?_)
      | (with_reducible refine LeO.bind ?_ (fun _ => ?_))
      | exact ih0 _ _ _
      | exact ih1 _ _ _
      | exact ih2 _ _ _ _
      | exact ih3 _ _ _
      | exact ih4 _ _
      | exact ih5 _ _
      | exact impl_NmPath.mono _ _
      | exact spec_ValidPath.mono _ _
      | exact LeO.none _
      | refine LeO.ite ?_ ?_
      | refine LeO.bind ?_ (fun _ => ?_)
    · intro y0 y1
      unfold laws_FnNmPathParts.j4
      repeat' first
      | (with_reducible exact ih0 _ _ _)
      | (with_reducible exact ih1 _ _ _)
      | (with_reducible exact ih2 _ _ _ _)
      | (with_reducible exact ih3 _ _ _)
      | (with_reducible exact ih4 _ _)
      | (with_reducible exact ih5 _ _)
      | (with_reducible exact impl_NmPath.mono _ _)
      | (with_reducible exact spec_ValidPath.mono _ _)
      | (with_reducible exact LeO.refl _)
      | (with_reducible exact LeO.none _)
      | (with_reducible refine LeO.ite ?_ ?_)
      | (with_reducible refine LeO.bind ?_ (fun _ => ?_))
      | exact ih0 _ _ _
      | exact ih1 _ _ _
      | exact ih2 _ _ _ _
      | exact ih3 _ _ _
      | exact ih4 _ _
      | exact ih5 _ _
      | exact impl_NmPath.mono _ _
      | exact spec_ValidPath.mono _ _
      | exact LeO.none _
      | refine LeO.ite ?_ ?_
      | refine LeO.bind ?_ (fun _ => ?_)
    · intro y0 y1
      unfold laws_FnNmPathParts.l1
      repeat' first
      | (with_reducible exact ih0 _ _ _)
      | (with_reducible exact ih1 _ _ _)
      | (with_reducible exact ih2 _ _ _ _)
      | (with_reducible exact ih3 _ _ _)
      | (with_reducible exact ih4 _ _)
      | (with_reducible exact ih5 _ _)
      | (with_reducible exact impl_NmPath.mono _ _)
      | (with_reducible exact spec_ValidPath.mono _ _)
      | (with_reducible exact LeO.refl _)
      | (with_reducible exact LeO.none _)
      | (with_reducible refine LeO.ite ?_ ?_)
      | (with_reducible refine LeO.bind ?_ (fun _ => ?_))
      | exact ih0 _ _ _
      | exact ih1 _ _ _
      | exact ih2 _ _ _ _
      | exact ih3 _ _ _
      | exact ih4 _ _
      | exact ih5 _ _
      | exact impl_NmPath.mono _ _
      | exact spec_ValidPath.mono _ _
      | exact LeO.none _
      | refine LeO.ite ?_ ?_
      | refine LeO.bind ?_ (fun _ => ?_)
theorem laws_FnNmPathParts.mono : ∀ a0 a1 k, LeO (laws_FnNmPathParts.f k a0 a1) (laws_FnNmPathParts.f (k + 1) a0 a1) := by
  intro a0 a1 k
  obtain ⟨ih0, ih1, ih2, ih3, ih4, ih5⟩ := laws_FnNmPathParts.mono_l k
  unfold laws_FnNmPathParts.f
  repeat' first
      | (with_reducible exact ih0 _ _ _)
      | (with_reducible exact ih1 _ _ _)
      | (with_reducible exact ih2 _ _ _ _)
      | (with_reducible exact ih3 _ _ _)
      | (with_reducible exact ih4 _ _)
      | (with_reducible exact ih5 _ _)
      | (with_reducible exact impl_NmPath.mono _ _)
      | (with_reducible exact spec_ValidPath.mono _ _)
      | (with_reducible exact LeO.refl _)
      | (with_reducible exact LeO.none _)
      | (with_reducible refine LeO.ite ?_ ?_)
      | (with_reducible refine LeO.bind ?_ (fun _ => ?_))
      | exact ih0 _ _ _
      | exact ih1 _ _ _
      | exact ih2 _ _ _ _
      | exact ih3 _ _ _
      | exact ih4 _ _
      | exact ih5 _ _
      | exact impl_NmPath.mono _ _
      | exact spec_ValidPath.mono _ _
      | exact LeO.none _
      | refine LeO.ite ?_ ?_
      | refine LeO.bind ?_ (fun _ => ?_)
set_option maxHeartbeats 8000000 in
set_option maxRecDepth 100000 in
theorem laws_FnNmPathParts.calls (k : Nat) (a0 : ByteArray) (a1 : ByteArray) (r : Bool) (w : World) (h : laws_FnNmPathParts.f k a0 a1 = some r) :
    Calls Try.prog 3 #[.string a0, .string a1] w fun e w' => e = .returned (.bool r) ∧ Below w.heap.size w w' := by
  have HB := Aside0.mk (Below.refl w.heap.size w)
  have H : (if (a0.size : Int) > 2147483647 then (laws_FnNmPathParts.j0 k a0 a1 true) else (laws_FnNmPathParts.j0 k a0 a1 (decide ((a1.size : Int) > 2147483647)))) = some r := h
  clear h
  have HC3 := Aside0.mk H
  clear H
  go_enter Try.func3, Try.ntmps3
  go_upto_region 1 with (fail)
  go_cut [17] (fun v17 wc => ∃ (kq : Nat) (x17_2 : Bool), v17 = .bool x17_2 ∧ Aside0 (laws_FnNmPathParts.j0 kq a0 a1 x17_2 = some r) ∧ Aside0 (kq ≤ k) ∧ Aside0 (Below w.heap.size w wc))
  case first =>
    have H := HC3.out
    clear HC3
    by_cases c4 : (a0.size : Int) > 2147483647
    · rw [if_pos c4] at H
      have c4b0 : decide (2147483647 < (a0.size : Int)) = true := decide_eq_true c4
      have c4b1 : decide (2147483647 < a0.size) = true := decide_eq_true (by omega)
      clear c4
      (first | rw [c4b0] | (simp only [i64_w, i32_w]; rw [c4b0]) | skip)
      have H' := Aside0.mk H
      clear H
      go_wp2
      go_meet
      case rel => exact ⟨_, (true), (by first | rfl | (simp; done) | (simp [*]; done)), H', ⟨by first | omega | exact Nat.le_refl _⟩, ⟨by repeat (first | (with_reducible first | exact HB.out | apply below_alloc | apply pw_below_drewN | apply below_drew1) | exact HB.out)⟩⟩
    · rw [if_neg c4] at H
      have c4b0 : decide (2147483647 < (a0.size : Int)) = false := decide_eq_false c4
      have c4b1 : decide (2147483647 < a0.size) = false := decide_eq_false (by omega)
      clear c4
      (first | rw [c4b0] | (simp only [i64_w, i32_w]; rw [c4b0]) | skip)
      have H' := Aside0.mk H
      clear H
      go_wp2
      go_meet
      case rel => exact ⟨_, (decide ((a1.size : Int) > 2147483647)), (by first | rfl | (simp; done) | (simp [*]; done)), H', ⟨by first | omega | exact Nat.le_refl _⟩, ⟨by repeat (first | (with_reducible first | exact HB.out | apply below_alloc | apply pw_below_drewN | apply below_drew1) | exact HB.out)⟩⟩
  case rest =>
    clear HC3
    try clear p2
    try clear c3
    try clear c4
    try clear c4b0
    try clear c4b1
    obtain ⟨kq, x17_2, rfl, HA, HJ2, HB⟩ := hcut
    cases kq with
    | zero => exact absurd HA.out (by simp [laws_FnNmPathParts.j0])
    | succ kj2 =>
      have H := HA.out
      clear HA
      simp only [laws_FnNmPathParts.j0] at H
      by_cases c5 : x17_2 = true
      · subst c5
        have H1 : (some true) = some r := by rw [if_pos rfl] at H; exact H
        clear H
        have H := H1
        clear H1
        obtain rfl := Option.some.inj H
        go_wp2
        go_ret
        exact ⟨by first | rfl | (simp [errW_none, errW_some] <;> rfl) | (simp [*, errW_none, errW_some] <;> rfl), by repeat (first | (with_reducible first | exact HB.out | apply below_alloc | apply pw_below_drewN | apply below_drew1) | exact HB.out)⟩
      · replace c5 := Bool.eq_false_iff.mpr c5
        subst c5
        have H1 : (if (wrap64 ((a0.size : Int) + (a1.size : Int))) > 4096 then (laws_FnNmPathParts.j1 kj2 a0 a1 true) else ((spec_ValidPath.f kj2 a0).bind fun t103 => (laws_FnNmPathParts.j1 kj2 a0 a1 (!t103)))) = some r := by rw [if_neg (show ¬ (false = true) by decide)] at H; exact H
        clear H
        have H := H1
        clear H1
        have HC6 := Aside0.mk H
        clear H
        go_upto_region 3 with (fail)
        go_cut [28] (fun v28 wc => ∃ (kq : Nat) (x28_5 : Bool), v28 = .bool x28_5 ∧ Aside0 (laws_FnNmPathParts.j1 kq a0 a1 x28_5 = some r) ∧ Aside0 (kq ≤ kj2) ∧ Aside0 (Below w.heap.size w wc))
        case first =>
          have H := HC6.out
          clear HC6
          by_cases c7 : (wrap64 ((a0.size : Int) + (a1.size : Int))) > 4096
          · rw [if_pos c7] at H
            have c7b0 : decide (4096 < (wrap64 ((a0.size : Int) + (a1.size : Int)))) = true := decide_eq_true c7
            clear c7
            (first | rw [c7b0] | (simp only [i64_w, i32_w]; rw [c7b0]) | skip)
            have H' := Aside0.mk H
            clear H
            go_wp2
            go_meet
            case rel => exact ⟨_, (true), (by first | rfl | (simp; done) | (simp [*]; done)), H', ⟨by have := HJ2.out; first | omega | exact Nat.le_refl _⟩, ⟨by repeat (first | (with_reducible first | exact HB.out | apply below_alloc | apply pw_below_drewN | apply below_drew1) | exact HB.out)⟩⟩
          · rw [if_neg c7] at H
            have c7b0 : decide (4096 < (wrap64 ((a0.size : Int) + (a1.size : Int)))) = false := decide_eq_false c7
            clear c7
            (first | rw [c7b0] | (simp only [i64_w, i32_w]; rw [c7b0]) | skip)
            replace H := Option.bind_eq_some_iff.mp H
            obtain ⟨t103, A80, H⟩ := H
            replace H : (laws_FnNmPathParts.j1 kj2 a0 a1 (!t103)) = some r := H
            have A8 := Aside0.mk A80
            clear A80
            have H' := Aside0.mk H
            clear H
            go_wp2_with (first | (go_at_call 6; (with_reducible refine (spec_ValidPath.calls kj2 a0 t103 _ A8.out).mono ?_); rintro e w' ⟨rfl, ⟨nd, rfl⟩⟩))
            go_meet
            case rel => exact ⟨_, (!t103), (by first | rfl | (simp; done) | (simp [*]; done)), H', ⟨by have := HJ2.out; first | omega | exact Nat.le_refl _⟩, ⟨by repeat (first | (with_reducible first | exact HB.out | apply below_alloc | apply pw_below_drewN | apply below_drew1) | exact HB.out)⟩⟩
        case rest =>
          clear HC6
          try clear p2
          try clear c3
          try clear c4
          try clear c4b0
          try clear c4b1
          try clear c5
          try clear p6
          try clear c7
          try clear c7b0
          try clear p2
          obtain ⟨kq, x28_5, rfl, HA, HJ5, HB⟩ := hcut
          cases kq with
          | zero => exact absurd HA.out (by simp [laws_FnNmPathParts.j1])
          | succ kj5 =>
            have H := HA.out
            clear HA
            simp only [laws_FnNmPathParts.j1] at H
            by_cases c9 : x28_5 = true
            · subst c9
              have H1 : (some true) = some r := by rw [if_pos rfl] at H; exact H
              clear H
              have H := H1
              clear H1
              obtain rfl := Option.some.inj H
              go_wp2
              go_ret
              exact ⟨by first | rfl | (simp [errW_none, errW_some] <;> rfl) | (simp [*, errW_none, errW_some] <;> rfl), by repeat (first | (with_reducible first | exact HB.out | apply below_alloc | apply pw_below_drewN | apply below_drew1) | exact HB.out)⟩
            · replace c9 := Bool.eq_false_iff.mpr c9
              subst c9
              have H1 : (laws_FnNmPathParts.l0 kj5 a0 a1 (a1.toList != ([] : List UInt8)) 0) = some r := by rw [if_neg (show ¬ (false = true) by decide)] at H; exact H
              clear H
              have H := H1
              clear H1
              have H' := Aside0.mk H
              clear H
              go_wp2
              go_loopg [5, 6] kj5 (fun kq v5 v6 w' => ∃ (x5_3 : Bool) (x6_3 : Int), v5 = .bool x5_3 ∧ v6 = .int .i64 x6_3 ∧ Aside0 (laws_FnNmPathParts.l0 kq a0 a1 x5_3 x6_3 = some r) ∧ Aside0 (kq ≤ kj5) ∧ Aside0 (Below w.heap.size w w'))
              case atStart => exact ⟨((a1.toList != ([] : List UInt8))), (0), (by first | rfl | (exact congrArg Value.bool (by cases a1.toList <;> rfl)) | (simp; done) | (simp [*]; done)), (by first | rfl | (simp; done) | (simp [*]; done)), H', ⟨Nat.le_refl _⟩, ⟨by repeat (first | (with_reducible first | exact HB.out | apply below_alloc | apply pw_below_drewN | apply below_drew1) | exact HB.out)⟩⟩
              case round =>
                clear H'
                try clear p2
                try clear c3
                try clear c4
                try clear c4b0
                try clear c4b1
                try clear c5
                try clear p6
                try clear c7
                try clear c7b0
                try clear c9
                try clear p2
                try clear p6
                obtain ⟨x5_3, x6_3, rfl, rfl, HA, HK3, HB⟩ := hrel
                cases gk with
                | zero => exact absurd HA.out (by simp [laws_FnNmPathParts.l0])
                | succ k3 =>
                  have H := HA.out
                  clear HA
                  simp only [laws_FnNmPathParts.l0] at H
                  by_cases c10 : x6_3 < (a1.size : Int)
                  · rw [if_pos c10] at H
                    have c10b0 : decide (x6_3 < (a1.size : Int)) = true := decide_eq_true c10
                    clear c10
                    by_cases c11 : 0 ≤ x6_3
                    · rw [if_pos c11] at H
                      have c11b0 : decide (0 ≤ x6_3) = true := decide_eq_true c11
                      clear c11
                      by_cases c13 : (bt a1 x6_3) = 47
                      · rw [if_pos c13] at H
                        have c13b0 : ((bt a1 x6_3) == 47) = true := beq_iff_eq.mpr c13
                        have c13b1 : ((bt a1 x6_3) != 47) = false := bne_eq_false_iff_eq.mpr c13
                        clear c13
                        obtain rfl := Option.some.inj H
                        have p12 : 0 ≤ (x6_3 : Int) := of_decide_eq_true (by first | (with_reducible assumption) | assumption)
                        have q12 : x6_3 < (a1.size : Int) := of_decide_eq_true (by first | (with_reducible assumption) | assumption)
                        have hx12 := bt_at a1 x6_3
                        replace p12 := eq_true p12
                        replace q12 := eq_true q12
                        go_wp2
                        go_ret
                        exact ⟨by first | rfl | (simp [errW_none, errW_some] <;> rfl) | (simp [*, errW_none, errW_some] <;> rfl), by repeat (first | (with_reducible first | exact HB.out | apply below_alloc | apply pw_below_drewN | apply below_drew1) | exact HB.out)⟩
                      · rw [if_neg c13] at H
                        have c13b0 : ((bt a1 x6_3) == 47) = false := beq_eq_false_iff_ne.mpr c13
                        have c13b1 : ((bt a1 x6_3) != 47) = true := bne_iff_ne.mpr c13
                        by_cases c14 : x5_3 = true
                        · subst c14
                          have H1 : (if (Go.bits .or .u8 (bt a1 x6_3) 32) ≥ 97 then (if (Go.bits .or .u8 (bt a1 x6_3) 32) ≤ 122 then (laws_FnNmPathParts.l0 k3 a0 a1 true (wrap64 (x6_3 + 1))) else (if (bt a1 x6_3) ≥ 48 then (if (bt a1 x6_3) ≤ 57 then (laws_FnNmPathParts.l0 k3 a0 a1 true (wrap64 (x6_3 + 1))) else (laws_FnNmPathParts.l0 k3 a0 a1 ((bt a1 x6_3) == 95) (wrap64 (x6_3 + 1)))) else (laws_FnNmPathParts.l0 k3 a0 a1 ((bt a1 x6_3) == 95) (wrap64 (x6_3 + 1))))) else (if (bt a1 x6_3) ≥ 48 then (if (bt a1 x6_3) ≤ 57 then (laws_FnNmPathParts.l0 k3 a0 a1 true (wrap64 (x6_3 + 1))) else (laws_FnNmPathParts.l0 k3 a0 a1 ((bt a1 x6_3) == 95) (wrap64 (x6_3 + 1)))) else (laws_FnNmPathParts.l0 k3 a0 a1 ((bt a1 x6_3) == 95) (wrap64 (x6_3 + 1))))) = some r := by rw [if_pos rfl] at H; exact H
                          clear H
                          have H := H1
                          clear H1
                          by_cases c15 : (Go.bits .or .u8 (bt a1 x6_3) 32) ≥ 97
                          · rw [if_pos c15] at H
                            have c15b0 : decide (97 ≤ (Go.bits .or .u8 (bt a1 x6_3) 32)) = true := decide_eq_true c15
                            clear c15
                            by_cases c16 : (Go.bits .or .u8 (bt a1 x6_3) 32) ≤ 122
                            · rw [if_pos c16] at H
                              have c16b0 : decide ((Go.bits .or .u8 (bt a1 x6_3) 32) ≤ 122) = true := decide_eq_true c16
                              clear c16
                              have H' := Aside0.mk H
                              clear H
                              have p12 : 0 ≤ (x6_3 : Int) := of_decide_eq_true (by first | (with_reducible assumption) | assumption)
                              have q12 : x6_3 < (a1.size : Int) := of_decide_eq_true (by first | (with_reducible assumption) | assumption)
                              have hx12 := bt_at a1 x6_3
                              replace p12 := eq_true p12
                              replace q12 := eq_true q12
                              go_wp2
                              go_roundg k3
                              case measure => have := HJ2.out; have := HJ5.out; have := HK3.out; omega
                              case rel => exact ⟨(true), (wrap64 (x6_3 + 1)), (by first | rfl | (simp; done) | (simp [*]; done)), (by first | rfl | (simp; done) | (simp [*]; done)), H', ⟨by have := HJ2.out; have := HJ5.out; have := HK3.out; omega⟩, ⟨by repeat (first | (with_reducible first | exact HB.out | apply below_alloc | apply pw_below_drewN | apply below_drew1) | exact HB.out)⟩⟩
                            · rw [if_neg c16] at H
                              have c16b0 : decide ((Go.bits .or .u8 (bt a1 x6_3) 32) ≤ 122) = false := decide_eq_false c16
                              clear c16
                              by_cases c17 : (bt a1 x6_3) ≥ 48
                              · rw [if_pos c17] at H
                                have c17b0 : decide (48 ≤ (bt a1 x6_3)) = true := decide_eq_true c17
                                clear c17
                                by_cases c18 : (bt a1 x6_3) ≤ 57
                                · rw [if_pos c18] at H
                                  have c18b0 : decide ((bt a1 x6_3) ≤ 57) = true := decide_eq_true c18
                                  clear c18
                                  have H' := Aside0.mk H
                                  clear H
                                  have p12 : 0 ≤ (x6_3 : Int) := of_decide_eq_true (by first | (with_reducible assumption) | assumption)
                                  have q12 : x6_3 < (a1.size : Int) := of_decide_eq_true (by first | (with_reducible assumption) | assumption)
                                  have hx12 := bt_at a1 x6_3
                                  replace p12 := eq_true p12
                                  replace q12 := eq_true q12
                                  go_wp2
                                  go_roundg k3
                                  case measure => have := HJ2.out; have := HJ5.out; have := HK3.out; omega
                                  case rel => exact ⟨(true), (wrap64 (x6_3 + 1)), (by first | rfl | (simp; done) | (simp [*]; done)), (by first | rfl | (simp; done) | (simp [*]; done)), H', ⟨by have := HJ2.out; have := HJ5.out; have := HK3.out; omega⟩, ⟨by repeat (first | (with_reducible first | exact HB.out | apply below_alloc | apply pw_below_drewN | apply below_drew1) | exact HB.out)⟩⟩
                                · rw [if_neg c18] at H
                                  have c18b0 : decide ((bt a1 x6_3) ≤ 57) = false := decide_eq_false c18
                                  clear c18
                                  have H' := Aside0.mk H
                                  clear H
                                  have p12 : 0 ≤ (x6_3 : Int) := of_decide_eq_true (by first | (with_reducible assumption) | assumption)
                                  have q12 : x6_3 < (a1.size : Int) := of_decide_eq_true (by first | (with_reducible assumption) | assumption)
                                  have hx12 := bt_at a1 x6_3
                                  replace p12 := eq_true p12
                                  replace q12 := eq_true q12
                                  go_wp2
                                  go_roundg k3
                                  case measure => have := HJ2.out; have := HJ5.out; have := HK3.out; omega
                                  case rel => exact ⟨(((bt a1 x6_3) == 95)), (wrap64 (x6_3 + 1)), (by first | rfl | (simp; done) | (simp [*]; done)), (by first | rfl | (simp; done) | (simp [*]; done)), H', ⟨by have := HJ2.out; have := HJ5.out; have := HK3.out; omega⟩, ⟨by repeat (first | (with_reducible first | exact HB.out | apply below_alloc | apply pw_below_drewN | apply below_drew1) | exact HB.out)⟩⟩
                              · rw [if_neg c17] at H
                                have c17b0 : decide (48 ≤ (bt a1 x6_3)) = false := decide_eq_false c17
                                clear c17
                                have H' := Aside0.mk H
                                clear H
                                have p12 : 0 ≤ (x6_3 : Int) := of_decide_eq_true (by first | (with_reducible assumption) | assumption)
                                have q12 : x6_3 < (a1.size : Int) := of_decide_eq_true (by first | (with_reducible assumption) | assumption)
                                have hx12 := bt_at a1 x6_3
                                replace p12 := eq_true p12
                                replace q12 := eq_true q12
                                go_wp2
                                go_roundg k3
                                case measure => have := HJ2.out; have := HJ5.out; have := HK3.out; omega
                                case rel => exact ⟨(((bt a1 x6_3) == 95)), (wrap64 (x6_3 + 1)), (by first | rfl | (simp; done) | (simp [*]; done)), (by first | rfl | (simp; done) | (simp [*]; done)), H', ⟨by have := HJ2.out; have := HJ5.out; have := HK3.out; omega⟩, ⟨by repeat (first | (with_reducible first | exact HB.out | apply below_alloc | apply pw_below_drewN | apply below_drew1) | exact HB.out)⟩⟩
                          · rw [if_neg c15] at H
                            have c15b0 : decide (97 ≤ (Go.bits .or .u8 (bt a1 x6_3) 32)) = false := decide_eq_false c15
                            clear c15
                            by_cases c19 : (bt a1 x6_3) ≥ 48
                            · rw [if_pos c19] at H
                              have c19b0 : decide (48 ≤ (bt a1 x6_3)) = true := decide_eq_true c19
                              clear c19
                              by_cases c20 : (bt a1 x6_3) ≤ 57
                              · rw [if_pos c20] at H
                                have c20b0 : decide ((bt a1 x6_3) ≤ 57) = true := decide_eq_true c20
                                clear c20
                                have H' := Aside0.mk H
                                clear H
                                have p12 : 0 ≤ (x6_3 : Int) := of_decide_eq_true (by first | (with_reducible assumption) | assumption)
                                have q12 : x6_3 < (a1.size : Int) := of_decide_eq_true (by first | (with_reducible assumption) | assumption)
                                have hx12 := bt_at a1 x6_3
                                replace p12 := eq_true p12
                                replace q12 := eq_true q12
                                go_wp2
                                go_roundg k3
                                case measure => have := HJ2.out; have := HJ5.out; have := HK3.out; omega
                                case rel => exact ⟨(true), (wrap64 (x6_3 + 1)), (by first | rfl | (simp; done) | (simp [*]; done)), (by first | rfl | (simp; done) | (simp [*]; done)), H', ⟨by have := HJ2.out; have := HJ5.out; have := HK3.out; omega⟩, ⟨by repeat (first | (with_reducible first | exact HB.out | apply below_alloc | apply pw_below_drewN | apply below_drew1) | exact HB.out)⟩⟩
                              · rw [if_neg c20] at H
                                have c20b0 : decide ((bt a1 x6_3) ≤ 57) = false := decide_eq_false c20
                                clear c20
                                have H' := Aside0.mk H
                                clear H
                                have p12 : 0 ≤ (x6_3 : Int) := of_decide_eq_true (by first | (with_reducible assumption) | assumption)
                                have q12 : x6_3 < (a1.size : Int) := of_decide_eq_true (by first | (with_reducible assumption) | assumption)
                                have hx12 := bt_at a1 x6_3
                                replace p12 := eq_true p12
                                replace q12 := eq_true q12
                                go_wp2
                                go_roundg k3
                                case measure => have := HJ2.out; have := HJ5.out; have := HK3.out; omega
                                case rel => exact ⟨(((bt a1 x6_3) == 95)), (wrap64 (x6_3 + 1)), (by first | rfl | (simp; done) | (simp [*]; done)), (by first | rfl | (simp; done) | (simp [*]; done)), H', ⟨by have := HJ2.out; have := HJ5.out; have := HK3.out; omega⟩, ⟨by repeat (first | (with_reducible first | exact HB.out | apply below_alloc | apply pw_below_drewN | apply below_drew1) | exact HB.out)⟩⟩
                            · rw [if_neg c19] at H
                              have c19b0 : decide (48 ≤ (bt a1 x6_3)) = false := decide_eq_false c19
                              clear c19
                              have H' := Aside0.mk H
                              clear H
                              have p12 : 0 ≤ (x6_3 : Int) := of_decide_eq_true (by first | (with_reducible assumption) | assumption)
                              have q12 : x6_3 < (a1.size : Int) := of_decide_eq_true (by first | (with_reducible assumption) | assumption)
                              have hx12 := bt_at a1 x6_3
                              replace p12 := eq_true p12
                              replace q12 := eq_true q12
                              go_wp2
                              go_roundg k3
                              case measure => have := HJ2.out; have := HJ5.out; have := HK3.out; omega
                              case rel => exact ⟨(((bt a1 x6_3) == 95)), (wrap64 (x6_3 + 1)), (by first | rfl | (simp; done) | (simp [*]; done)), (by first | rfl | (simp; done) | (simp [*]; done)), H', ⟨by have := HJ2.out; have := HJ5.out; have := HK3.out; omega⟩, ⟨by repeat (first | (with_reducible first | exact HB.out | apply below_alloc | apply pw_below_drewN | apply below_drew1) | exact HB.out)⟩⟩
                        · replace c14 := Bool.eq_false_iff.mpr c14
                          subst c14
                          have H1 : (laws_FnNmPathParts.l0 k3 a0 a1 false (wrap64 (x6_3 + 1))) = some r := by rw [if_neg (show ¬ (false = true) by decide)] at H; exact H
                          clear H
                          have H := H1
                          clear H1
                          have H' := Aside0.mk H
                          clear H
                          have p12 : 0 ≤ (x6_3 : Int) := of_decide_eq_true (by first | (with_reducible assumption) | assumption)
                          have q12 : x6_3 < (a1.size : Int) := of_decide_eq_true (by first | (with_reducible assumption) | assumption)
                          have hx12 := bt_at a1 x6_3
                          replace p12 := eq_true p12
                          replace q12 := eq_true q12
                          go_wp2
                          go_roundg k3
                          case measure => have := HJ2.out; have := HJ5.out; have := HK3.out; omega
                          case rel => exact ⟨(false), (wrap64 (x6_3 + 1)), (by first | rfl | (simp; done) | (simp [*]; done)), (by first | rfl | (simp; done) | (simp [*]; done)), H', ⟨by have := HJ2.out; have := HJ5.out; have := HK3.out; omega⟩, ⟨by repeat (first | (with_reducible first | exact HB.out | apply below_alloc | apply pw_below_drewN | apply below_drew1) | exact HB.out)⟩⟩
                    · rw [if_neg c11] at H
                      exact absurd H (by simp)
                  · rw [if_neg c10] at H
                    have c10b0 : decide (x6_3 < (a1.size : Int)) = false := decide_eq_false c10
                    clear c10
                    by_cases c21 : a0.size + 1 ≤ 9223372036854775807
                    · rw [if_pos c21] at H
                      have c21b0 := eq_true c21
                      have c21b1 : decide (a0.size + 1 ≤ 9223372036854775807) = true := decide_eq_true c21
                      try have c21b2 : (9223372036854775807 < a0.size + 1) = False := eq_false (Nat.not_lt.2 c21)
                      try (have c21b3 := c21b2; simp only [ByteArray.size_append] at c21b3)
                      try (have c21b4 := c21b3; simp only [show ∀ c : UInt8, (ByteArray.mk #[c]).size = 1 from fun _ => rfl] at c21b4)
                      by_cases c22 : (a0 ++ (⟨#[47]⟩ : ByteArray)).size + a1.size ≤ 9223372036854775807
                      · rw [if_pos c22] at H
                        have c22b0 := eq_true c22
                        have c22b1 : decide ((a0 ++ (⟨#[47]⟩ : ByteArray)).size + a1.size ≤ 9223372036854775807) = true := decide_eq_true c22
                        try have c22b2 : (9223372036854775807 < (a0 ++ (⟨#[47]⟩ : ByteArray)).size + a1.size) = False := eq_false (Nat.not_lt.2 c22)
                        try (have c22b3 := c22b2; simp only [ByteArray.size_append] at c22b3)
                        try (have c22b4 := c22b3; simp only [show ∀ c : UInt8, (ByteArray.mk #[c]).size = 1 from fun _ => rfl] at c22b4)
                        have HC23 := Aside0.mk H
                        clear H
                        go_upto_if 70 with (fail)
                        go_cut [8] (fun v8 wc => ∃ (kq : Nat) (x8_22 : ByteArray), v8 = .string x8_22 ∧ Aside0 (laws_FnNmPathParts.j3 kq a0 x5_3 x8_22 = some r) ∧ Aside0 (kq ≤ k3) ∧ Aside0 (Below w.heap.size w wc))
                        case first =>
                          have H := HC23.out
                          clear HC23
                          by_cases c24 : a0.toList = ([47] : List UInt8)
                          · rw [if_pos c24] at H
                            have c24b0 : (a0.toList == ([47] : List UInt8)) = true := beq_iff_eq.mpr c24
                            have c24b1 : (a0.toList != ([47] : List UInt8)) = false := bne_eq_false_iff_eq.mpr c24
                            clear c24
                            (first | rw [c24b0] | (simp only [i64_w, i32_w]; rw [c24b0]) | skip)
                            by_cases c25 : a0.size + a1.size ≤ 9223372036854775807
                            · rw [if_pos c25] at H
                              have c25b0 := eq_true c25
                              have c25b1 : decide (a0.size + a1.size ≤ 9223372036854775807) = true := decide_eq_true c25
                              try have c25b2 : (9223372036854775807 < a0.size + a1.size) = False := eq_false (Nat.not_lt.2 c25)
                              try (have c25b3 := c25b2; simp only [ByteArray.size_append] at c25b3)
                              try (have c25b4 := c25b3; simp only [show ∀ c : UInt8, (ByteArray.mk #[c]).size = 1 from fun _ => rfl] at c25b4)
                              have H' := Aside0.mk H
                              clear H
                              go_wp2
                              go_meet
                              case rel => exact ⟨_, (a0 ++ a1), (by first | rfl | (simp; done) | (simp [*]; done)), H', ⟨by have := HJ2.out; have := HJ5.out; have := HK3.out; first | omega | exact Nat.le_refl _⟩, ⟨by repeat (first | (with_reducible first | exact HB.out | apply below_alloc | apply pw_below_drewN | apply below_drew1) | exact HB.out)⟩⟩
                            · rw [if_neg c25] at H
                              exact absurd H (by simp)
                          · rw [if_neg c24] at H
                            have c24b0 : (a0.toList == ([47] : List UInt8)) = false := beq_eq_false_iff_ne.mpr c24
                            have c24b1 : (a0.toList != ([47] : List UInt8)) = true := bne_iff_ne.mpr c24
                            (first | rw [c24b0] | (simp only [i64_w, i32_w]; rw [c24b0]) | skip)
                            have H' := Aside0.mk H
                            clear H
                            go_wp2
                            go_meet
                            case rel => exact ⟨_, ((a0 ++ (⟨#[47]⟩ : ByteArray)) ++ a1), (by first | rfl | (simp; done) | (simp [*]; done)), H', ⟨by have := HJ2.out; have := HJ5.out; have := HK3.out; first | omega | exact Nat.le_refl _⟩, ⟨by repeat (first | (with_reducible first | exact HB.out | apply below_alloc | apply pw_below_drewN | apply below_drew1) | exact HB.out)⟩⟩
                        case rest =>
                          clear HC23
                          try clear c1
                          try clear p1
                          try clear q1
                          try clear hx1
                          try clear c2
                          try clear p2
                          try clear c3
                          try clear c4
                          try clear c4b0
                          try clear c4b1
                          try clear c5
                          try clear p6
                          try clear c7
                          try clear c7b0
                          try clear c9
                          try clear c10
                          try clear c10b0
                          try clear c11
                          try clear c11b0
                          try clear p12
                          try clear q12
                          try clear hx12
                          try clear c13
                          try clear c13b0
                          try clear c13b1
                          try clear c14
                          try clear c15
                          try clear c15b0
                          try clear c16
                          try clear c16b0
                          try clear c17
                          try clear c17b0
                          try clear c18
                          try clear c18b0
                          try clear c19
                          try clear c19b0
                          try clear c20
                          try clear c20b0
                          try clear c21
                          try clear c21b0
                          try clear c21b1
                          try clear c21b2
                          try clear c22
                          try clear c22b0
                          try clear c22b1
                          try clear c22b2
                          try clear c24
                          try clear c24b0
                          try clear c24b1
                          try clear c25
                          try clear c25b0
                          try clear c25b1
                          try clear c25b2
                          try clear p12
                          try clear p2
                          try clear p6
                          try clear q12
                          obtain ⟨kq, x8_22, rfl, HA, HJ22, HB⟩ := hcut
                          cases kq with
                          | zero => exact absurd HA.out (by simp [laws_FnNmPathParts.j3])
                          | succ kj22 =>
                            have H := HA.out
                            clear HA
                            simp only [laws_FnNmPathParts.j3] at H
                            have HC26 := Aside0.mk H
                            clear H
                            go_upto_region 16 with (fail)
                            go_cut [86] (fun v86 wc => ∃ (kq : Nat) (x86_25 : Bool), v86 = .bool x86_25 ∧ Aside0 (laws_FnNmPathParts.j4 kq a0 x86_25 = some r) ∧ Aside0 (kq ≤ kj22) ∧ Aside0 (Below w.heap.size w wc))
                            case first =>
                              have H := HC26.out
                              clear HC26
                              replace H := Option.bind_eq_some_iff.mp H
                              obtain ⟨t104, A270, H⟩ := H
                              replace H : (if t104 = true then ((impl_NmPath.f kj22 x8_22).bind fun t105 => (if (t105 != x5_3) = true then (laws_FnNmPathParts.j4 kj22 a0 (x8_22.toList != ([47] : List UInt8))) else (laws_FnNmPathParts.j4 kj22 a0 false))) else (laws_FnNmPathParts.j4 kj22 a0 true)) = some r := H
                              have A27 := Aside0.mk A270
                              clear A270
                              by_cases c28 : t104 = true
                              · subst c28
                                have H1 : ((impl_NmPath.f kj22 x8_22).bind fun t105 => (if (t105 != x5_3) = true then (laws_FnNmPathParts.j4 kj22 a0 (x8_22.toList != ([47] : List UInt8))) else (laws_FnNmPathParts.j4 kj22 a0 false))) = some r := by rw [if_pos rfl] at H; exact H
                                clear H
                                have H := H1
                                clear H1
                                replace H := Option.bind_eq_some_iff.mp H
                                obtain ⟨t105, A290, H⟩ := H
                                replace H : (if (t105 != x5_3) = true then (laws_FnNmPathParts.j4 kj22 a0 (x8_22.toList != ([47] : List UInt8))) else (laws_FnNmPathParts.j4 kj22 a0 false)) = some r := H
                                have A29 := Aside0.mk A290
                                clear A290
                                by_cases c30 : (t105 != x5_3) = true
                                · rw [if_pos c30] at H
                                  have c30b0 : (t105 != x5_3) = true := c30
                                  (try (have c30b1 : decide (t105 = x5_3) = false := by simpa using c30))
                                  (try (have c30b2 : (t105 == x5_3) = false := by simpa using c30))
                                  (try (have c30b3 : ¬ (t105 = x5_3) := by simpa using c30))
                                  clear c30
                                  (first | rw [c30b0] | (simp only [i64_w, i32_w]; rw [c30b0]) | skip)
                                  have H' := Aside0.mk H
                                  clear H
                                  go_wp2_with (first | ((with_reducible refine gate_callee (f := 7) rfl ?_); refine goesL_ (some 75) rfl rfl Try.func7 (by kernel_rfl) rfl #[.string a0] rfl (by (try simp only [List.map_toArray, List.map_cons, List.map_nil]); first | done | rfl | (simp only [List.length_drop, List.length_take]; rfl)) ?_; (with_reducible refine (impl_NmPath.calls kj22 a0 true _ A27.out).mono ?_); rintro e w31 ⟨rfl, hb⟩; refine ⟨_, rfl, ?_⟩; have n0_ := Aside0.mk (below_step (by repeat (first | (with_reducible first | exact HB.out | apply below_alloc | apply pw_below_drewN | apply below_drew1) | exact HB.out)) hb); clear HB; have HB := n0_; clear n0_; (try clear hb); (try clear hb2); (try clear hk); (try clear hi)) | (go_at_call 7; (with_reducible refine (impl_NmPath.calls kj22 x8_22 t105 _ A29.out).mono ?_); rintro e w32 ⟨rfl, hb⟩; have n0_ := Aside0.mk (below_step (by repeat (first | (with_reducible first | exact HB.out | apply below_alloc | apply pw_below_drewN | apply below_drew1) | exact HB.out)) hb); clear HB; have HB := n0_; clear n0_; (try clear hb); (try clear hb2); (try clear hk); (try clear hi)))
                                  go_meet
                                  case rel => exact ⟨_, ((x8_22.toList != ([47] : List UInt8))), (by first | rfl | (simp; done) | (simp [*]; done)), H', ⟨by have := HJ2.out; have := HJ5.out; have := HK3.out; have := HJ22.out; first | omega | exact Nat.le_refl _⟩, ⟨by repeat (first | (with_reducible first | exact HB.out | apply below_alloc | apply pw_below_drewN | apply below_drew1) | exact HB.out)⟩⟩
                                · rw [if_neg c30] at H
                                  have c30b0 : (t105 != x5_3) = false := by simpa using c30
                                  (try (have c30b1 : decide (t105 = x5_3) = true := by simpa using c30))
                                  (try (have c30b2 : (t105 == x5_3) = true := by simpa using c30))
                                  clear c30
                                  (first | rw [c30b0] | (simp only [i64_w, i32_w]; rw [c30b0]) | skip)
                                  have H' := Aside0.mk H
                                  clear H
                                  go_wp2_with (first | ((with_reducible refine gate_callee (f := 7) rfl ?_); refine goesL_ (some 75) rfl rfl Try.func7 (by kernel_rfl) rfl #[.string a0] rfl (by (try simp only [List.map_toArray, List.map_cons, List.map_nil]); first | done | rfl | (simp only [List.length_drop, List.length_take]; rfl)) ?_; (with_reducible refine (impl_NmPath.calls kj22 a0 true _ A27.out).mono ?_); rintro e w33 ⟨rfl, hb⟩; refine ⟨_, rfl, ?_⟩; have n0_ := Aside0.mk (below_step (by repeat (first | (with_reducible first | exact HB.out | apply below_alloc | apply pw_below_drewN | apply below_drew1) | exact HB.out)) hb); clear HB; have HB := n0_; clear n0_; (try clear hb); (try clear hb2); (try clear hk); (try clear hi)) | (go_at_call 7; (with_reducible refine (impl_NmPath.calls kj22 x8_22 t105 _ A29.out).mono ?_); rintro e w34 ⟨rfl, hb⟩; have n0_ := Aside0.mk (below_step (by repeat (first | (with_reducible first | exact HB.out | apply below_alloc | apply pw_below_drewN | apply below_drew1) | exact HB.out)) hb); clear HB; have HB := n0_; clear n0_; (try clear hb); (try clear hb2); (try clear hk); (try clear hi)))
                                  go_meet
                                  case rel => exact ⟨_, (false), (by first | rfl | (simp; done) | (simp [*]; done)), H', ⟨by have := HJ2.out; have := HJ5.out; have := HK3.out; have := HJ22.out; first | omega | exact Nat.le_refl _⟩, ⟨by repeat (first | (with_reducible first | exact HB.out | apply below_alloc | apply pw_below_drewN | apply below_drew1) | exact HB.out)⟩⟩
                              · replace c28 := Bool.eq_false_iff.mpr c28
                                subst c28
                                have H1 : (laws_FnNmPathParts.j4 kj22 a0 true) = some r := by rw [if_neg (show ¬ (false = true) by decide)] at H; exact H
                                clear H
                                have H := H1
                                clear H1
                                have H' := Aside0.mk H
                                clear H
                                go_wp2_with (first | ((with_reducible refine gate_callee (f := 7) rfl ?_); refine goesL_ (some 75) rfl rfl Try.func7 (by kernel_rfl) rfl #[.string a0] rfl (by (try simp only [List.map_toArray, List.map_cons, List.map_nil]); first | done | rfl | (simp only [List.length_drop, List.length_take]; rfl)) ?_; (with_reducible refine (impl_NmPath.calls kj22 a0 false _ A27.out).mono ?_); rintro e w35 ⟨rfl, hb⟩; refine ⟨_, rfl, ?_⟩; have n0_ := Aside0.mk (below_step (by repeat (first | (with_reducible first | exact HB.out | apply below_alloc | apply pw_below_drewN | apply below_drew1) | exact HB.out)) hb); clear HB; have HB := n0_; clear n0_; (try clear hb); (try clear hb2); (try clear hk); (try clear hi)))
                                go_meet
                                case rel => exact ⟨_, (true), (by first | rfl | (simp; done) | (simp [*]; done)), H', ⟨by have := HJ2.out; have := HJ5.out; have := HK3.out; have := HJ22.out; first | omega | exact Nat.le_refl _⟩, ⟨by repeat (first | (with_reducible first | exact HB.out | apply below_alloc | apply pw_below_drewN | apply below_drew1) | exact HB.out)⟩⟩
                            case rest =>
                              clear HC26
                              try clear c1
                              try clear p1
                              try clear q1
                              try clear hx1
                              try clear c2
                              try clear p2
                              try clear c3
                              try clear c4
                              try clear c4b0
                              try clear c4b1
                              try clear c5
                              try clear p6
                              try clear c7
                              try clear c7b0
                              try clear c9
                              try clear c10
                              try clear c10b0
                              try clear c11
                              try clear c11b0
                              try clear p12
                              try clear q12
                              try clear hx12
                              try clear c13
                              try clear c13b0
                              try clear c13b1
                              try clear c14
                              try clear c15
                              try clear c15b0
                              try clear c16
                              try clear c16b0
                              try clear c17
                              try clear c17b0
                              try clear c18
                              try clear c18b0
                              try clear c19
                              try clear c19b0
                              try clear c20
                              try clear c20b0
                              try clear c21
                              try clear c21b0
                              try clear c21b1
                              try clear c21b2
                              try clear c22
                              try clear c22b0
                              try clear c22b1
                              try clear c22b2
                              try clear c24
                              try clear c24b0
                              try clear c24b1
                              try clear c25
                              try clear c25b0
                              try clear c25b1
                              try clear c25b2
                              try clear c28
                              try clear c30
                              try clear c30b0
                              try clear c30b1
                              try clear c30b2
                              try clear p1
                              try clear p12
                              try clear p2
                              try clear p6
                              try clear q1
                              try clear q12
                              obtain ⟨kq, x86_25, rfl, HA, HJ25, HB⟩ := hcut
                              cases kq with
                              | zero => exact absurd HA.out (by simp [laws_FnNmPathParts.j4])
                              | succ kj25 =>
                                have H := HA.out
                                clear HA
                                simp only [laws_FnNmPathParts.j4] at H
                                by_cases c36 : x86_25 = true
                                · subst c36
                                  have H1 : (some false) = some r := by rw [if_pos rfl] at H; exact H
                                  clear H
                                  have H := H1
                                  clear H1
                                  obtain rfl := Option.some.inj H
                                  go_wp2
                                  go_ret
                                  exact ⟨by first | rfl | (simp [errW_none, errW_some] <;> rfl) | (simp [*, errW_none, errW_some] <;> rfl), by repeat (first | (with_reducible first | exact HB.out | apply below_alloc | apply pw_below_drewN | apply below_drew1) | exact HB.out)⟩
                                · replace c36 := Bool.eq_false_iff.mpr c36
                                  subst c36
                                  have H1 : (laws_FnNmPathParts.l1 kj25 a0 1) = some r := by rw [if_neg (show ¬ (false = true) by decide)] at H; exact H
                                  clear H
                                  have H := H1
                                  clear H1
                                  have H' := Aside0.mk H
                                  clear H
                                  go_wp2
                                  go_loopg [9] kj25 (fun kq v9 w' => ∃ (x9_6 : Int), v9 = .int .i64 x9_6 ∧ Aside0 (laws_FnNmPathParts.l1 kq a0 x9_6 = some r) ∧ Aside0 (kq ≤ kj25) ∧ Aside0 (Below w.heap.size w w'))
                                  case atStart => exact ⟨(1), (by first | rfl | (simp; done) | (simp [*]; done)), H', ⟨Nat.le_refl _⟩, ⟨by repeat (first | (with_reducible first | exact HB.out | apply below_alloc | apply pw_below_drewN | apply below_drew1) | exact HB.out)⟩⟩
                                  case round =>
                                    clear H'
                                    try clear c1
                                    try clear p1
                                    try clear q1
                                    try clear hx1
                                    try clear c2
                                    try clear p2
                                    try clear c3
                                    try clear c4
                                    try clear c4b0
                                    try clear c4b1
                                    try clear c5
                                    try clear p6
                                    try clear c7
                                    try clear c7b0
                                    try clear c9
                                    try clear c10
                                    try clear c10b0
                                    try clear c11
                                    try clear c11b0
                                    try clear p12
                                    try clear q12
                                    try clear hx12
                                    try clear c13
                                    try clear c13b0
                                    try clear c13b1
                                    try clear c14
                                    try clear c15
                                    try clear c15b0
                                    try clear c16
                                    try clear c16b0
                                    try clear c17
                                    try clear c17b0
                                    try clear c18
                                    try clear c18b0
                                    try clear c19
                                    try clear c19b0
                                    try clear c20
                                    try clear c20b0
                                    try clear c21
                                    try clear c21b0
                                    try clear c21b1
                                    try clear c21b2
                                    try clear c22
                                    try clear c22b0
                                    try clear c22b1
                                    try clear c22b2
                                    try clear c24
                                    try clear c24b0
                                    try clear c24b1
                                    try clear c25
                                    try clear c25b0
                                    try clear c25b1
                                    try clear c25b2
                                    try clear c28
                                    try clear c30
                                    try clear c30b0
                                    try clear c30b1
                                    try clear c30b2
                                    try clear c36
                                    try clear p1
                                    try clear p12
                                    try clear p2
                                    try clear p6
                                    try clear q1
                                    try clear q12
                                    obtain ⟨x9_6, rfl, HA, HK6, HB⟩ := hrel
                                    cases gk with
                                    | zero => exact absurd HA.out (by simp [laws_FnNmPathParts.l1])
                                    | succ k6 =>
                                      have H := HA.out
                                      clear HA
                                      simp only [laws_FnNmPathParts.l1] at H
                                      by_cases c37 : x9_6 < (a0.size : Int)
                                      · rw [if_pos c37] at H
                                        have c37b0 : decide (x9_6 < (a0.size : Int)) = true := decide_eq_true c37
                                        clear c37
                                        by_cases c38 : 0 ≤ x9_6
                                        · rw [if_pos c38] at H
                                          have c38b0 : decide (0 ≤ x9_6) = true := decide_eq_true c38
                                          clear c38
                                          by_cases c40 : (bt a0 x9_6) = 47
                                          · rw [if_pos c40] at H
                                            have c40b0 : ((bt a0 x9_6) == 47) = true := beq_iff_eq.mpr c40
                                            have c40b1 : ((bt a0 x9_6) != 47) = false := bne_eq_false_iff_eq.mpr c40
                                            clear c40
                                            have c41b0 := eq_true (of_decide_eq_true (by first | (with_reducible assumption) | assumption) : 0 ≤ x9_6)
                                            by_cases c42 : x9_6 ≤ (a0.size : Int)
                                            · rw [if_pos c42] at H
                                              have c42b0 := eq_true c42
                                              have c42b1 : decide (x9_6 ≤ (a0.size : Int)) = true := decide_eq_true c42
                                              clear c42
                                              replace H := Option.bind_eq_some_iff.mp H
                                              obtain ⟨t106, A430, H⟩ := H
                                              replace H : (if t106 = true then (laws_FnNmPathParts.l1 k6 a0 (wrap64 (x9_6 + 1))) else (some false)) = some r := H
                                              have A43 := Aside0.mk A430
                                              clear A430
                                              by_cases c44 : t106 = true
                                              · subst c44
                                                have H1 : (laws_FnNmPathParts.l1 k6 a0 (wrap64 (x9_6 + 1))) = some r := by rw [if_pos rfl] at H; exact H
                                                clear H
                                                have H := H1
                                                clear H1
                                                have H' := Aside0.mk H
                                                clear H
                                                have p39 : 0 ≤ (x9_6 : Int) := of_decide_eq_true (by first | (with_reducible assumption) | assumption)
                                                have q39 : x9_6 < (a0.size : Int) := of_decide_eq_true (by first | (with_reducible assumption) | assumption)
                                                have hx39 := bt_at a0 x9_6
                                                replace p39 := eq_true p39
                                                replace q39 := eq_true q39
                                                go_wp2_with (first | (go_at_call 7; (with_reducible refine (impl_NmPath.calls k6 (a0.extract 0 (x9_6 : Int).toNat) true _ A43.out).mono ?_); rintro e w45 ⟨rfl, hb⟩; have n0_ := Aside0.mk (below_step (by repeat (first | (with_reducible first | exact HB.out | apply below_alloc | apply pw_below_drewN | apply below_drew1) | exact HB.out)) hb); clear HB; have HB := n0_; clear n0_; (try clear hb); (try clear hb2); (try clear hk); (try clear hi)))
                                                go_roundg k6
                                                case measure => have := HJ2.out; have := HJ5.out; have := HK3.out; have := HJ22.out; have := HJ25.out; have := HK6.out; omega
                                                case rel => exact ⟨(wrap64 (x9_6 + 1)), (by first | rfl | (simp; done) | (simp [*]; done)), H', ⟨by have := HJ2.out; have := HJ5.out; have := HK3.out; have := HJ22.out; have := HJ25.out; have := HK6.out; omega⟩, ⟨by repeat (first | (with_reducible first | exact HB.out | apply below_alloc | apply pw_below_drewN | apply below_drew1) | exact HB.out)⟩⟩
                                              · replace c44 := Bool.eq_false_iff.mpr c44
                                                subst c44
                                                have H1 : (some false) = some r := by rw [if_neg (show ¬ (false = true) by decide)] at H; exact H
                                                clear H
                                                have H := H1
                                                clear H1
                                                obtain rfl := Option.some.inj H
                                                have p39 : 0 ≤ (x9_6 : Int) := of_decide_eq_true (by first | (with_reducible assumption) | assumption)
                                                have q39 : x9_6 < (a0.size : Int) := of_decide_eq_true (by first | (with_reducible assumption) | assumption)
                                                have hx39 := bt_at a0 x9_6
                                                replace p39 := eq_true p39
                                                replace q39 := eq_true q39
                                                go_wp2_with (first | (go_at_call 7; (with_reducible refine (impl_NmPath.calls k6 (a0.extract 0 (x9_6 : Int).toNat) false _ A43.out).mono ?_); rintro e w46 ⟨rfl, hb⟩; have n0_ := Aside0.mk (below_step (by repeat (first | (with_reducible first | exact HB.out | apply below_alloc | apply pw_below_drewN | apply below_drew1) | exact HB.out)) hb); clear HB; have HB := n0_; clear n0_; (try clear hb); (try clear hb2); (try clear hk); (try clear hi)))
                                                go_ret
                                                exact ⟨by first | rfl | (simp [errW_none, errW_some] <;> rfl) | (simp [*, errW_none, errW_some] <;> rfl), by repeat (first | (with_reducible first | exact HB.out | apply below_alloc | apply pw_below_drewN | apply below_drew1) | exact HB.out)⟩
                                            · rw [if_neg c42] at H
                                              exact absurd H (by simp)
                                          · rw [if_neg c40] at H
                                            have c40b0 : ((bt a0 x9_6) == 47) = false := beq_eq_false_iff_ne.mpr c40
                                            have c40b1 : ((bt a0 x9_6) != 47) = true := bne_iff_ne.mpr c40
                                            have H' := Aside0.mk H
                                            clear H
                                            have p39 : 0 ≤ (x9_6 : Int) := of_decide_eq_true (by first | (with_reducible assumption) | assumption)
                                            have q39 : x9_6 < (a0.size : Int) := of_decide_eq_true (by first | (with_reducible assumption) | assumption)
                                            have hx39 := bt_at a0 x9_6
                                            replace p39 := eq_true p39
                                            replace q39 := eq_true q39
                                            go_wp2
                                            go_roundg k6
                                            case measure => have := HJ2.out; have := HJ5.out; have := HK3.out; have := HJ22.out; have := HJ25.out; have := HK6.out; omega
                                            case rel => exact ⟨(wrap64 (x9_6 + 1)), (by first | rfl | (simp; done) | (simp [*]; done)), H', ⟨by have := HJ2.out; have := HJ5.out; have := HK3.out; have := HJ22.out; have := HJ25.out; have := HK6.out; omega⟩, ⟨by repeat (first | (with_reducible first | exact HB.out | apply below_alloc | apply pw_below_drewN | apply below_drew1) | exact HB.out)⟩⟩
                                        · rw [if_neg c38] at H
                                          exact absurd H (by simp)
                                      · rw [if_neg c37] at H
                                        have c37b0 : decide (x9_6 < (a0.size : Int)) = false := decide_eq_false c37
                                        clear c37
                                        obtain rfl := Option.some.inj H
                                        go_wp2
                                        go_ret
                                        exact ⟨by first | rfl | (simp [errW_none, errW_some] <;> rfl) | (simp [*, errW_none, errW_some] <;> rfl), by repeat (first | (with_reducible first | exact HB.out | apply below_alloc | apply pw_below_drewN | apply below_drew1) | exact HB.out)⟩
                      · rw [if_neg c22] at H
                        exact absurd H (by simp)
                    · rw [if_neg c21] at H
                      exact absurd H (by simp)

/-- THE ONE PURE STATEMENT of laws_FnNmPathParts: yours. -/
def laws_FnNmPathParts.Pure : Prop := ∀ (a0 : ByteArray) (a1 : ByteArray), a0.size ≤ 140737488351232 → a1.size ≤ 140737488351232 → ∃ k, laws_FnNmPathParts.f k a0 a1 = some true
theorem laws_FnNmPathParts.walk (P : laws_FnNmPathParts.Pure) (a0 : ByteArray) (a1 : ByteArray) (w : World) (w0 : a0.size ≤ 140737488351232) (w1 : a1.size ≤ 140737488351232) :
    Calls Try.prog 3 #[.string a0, .string a1] w fun e w' => e = .returned (.bool true) ∧ Below w.heap.size w w' := by
  obtain ⟨k, h⟩ := P a0 a1 w0 w1
  refine (laws_FnNmPathParts.calls k a0 a1 true w h).mono ?_
  rintro e w' ⟨rfl, hd⟩
  exact ⟨rfl, hd⟩

end Go.Proofs.Ytheopfecoakhnaa.Q
