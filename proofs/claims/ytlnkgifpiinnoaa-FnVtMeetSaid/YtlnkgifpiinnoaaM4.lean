-- Written by a program of this session out of the translation; Lean checks it.
import Derived.Test.YtlnkgifpiinnoaaM0
import Derived.Test.YtlnkgifpiinnoaaM1
import Derived.Test.YtlnkgifpiinnoaaM3
namespace Go.Proofs.Ytlnkgifpiinnoaa.M
open Go.RowKit Go.Proofs.Ytlnkgifpiinnoaa.Vm Go.Proofs.YtlnkgifpiinnoaaW.PrintWords Go.Proofs.YtlnkgifpiinnoaaW.PrintLast Go.Proofs.YtlnkgifpiinnoaaW.PrintMore
attribute [local go_sem] max2_int min2_int max_two min_two max_three min_three max_four min_four   -- for this text's walks alone
set_option linter.unusedVariables false
set_option linter.unusedSimpArgs false

/-! ### laws_vtSameList: function 11 -/
def laws_vtSameList.l0 : Nat → List ByteArray → List ByteArray → Int → Int → Option (Bool)
  | 0, _, _, _, _ => none
  | k + 1, x0, x1, x12, x13 => if x13 < x12 then (if 0 ≤ x13 then (if x13 < (x0.length : Int) then (if x13 < (x1.length : Int) then (if (rdOf ByteArray.empty x0 x13).toList = (rdOf ByteArray.empty x1 x13).toList then (laws_vtSameList.l0 k x0 x1 x12 (wrap64 (x13 + 1))) else (some false)) else (none)) else (none)) else (none)) else (some true)
def laws_vtSameList.f (k : Nat) (l0 : List ByteArray) (l1 : List ByteArray) : Option (Bool) := if (l0.length : Int) = (l1.length : Int) then (laws_vtSameList.l0 k l0 l1 (l0.length : Int) 0) else (some false)
theorem laws_vtSameList.mono_l : ∀ k, (∀ y0 y1 y2 y3, LeO (laws_vtSameList.l0 k y0 y1 y2 y3) (laws_vtSameList.l0 (k + 1) y0 y1 y2 y3))
  | 0 => fun _ _ _ _ r h => by simp [laws_vtSameList.l0] at h
  | k + 1 => by
    have ih0 := laws_vtSameList.mono_l k
    · intro y0 y1 y2 y3
      unfold laws_vtSameList.l0
      repeat' first
      | (with_reducible exact ih0 _ _ _ _)
      | (with_reducible exact LeO.refl _)
      | (with_reducible exact LeO.none _)
      | (with_reducible refine LeO.ite ?_ ?_)
      | (with_reducible refine LeO.bind ?_ (fun _ => ?_))
      | exact ih0 _ _ _ _
      | exact LeO.none _
      | refine LeO.ite ?_ ?_
      | refine LeO.bind ?_ (fun _ => ?_)
theorem laws_vtSameList.mono : ∀ a0 a1 k, LeO (laws_vtSameList.f k a0 a1) (laws_vtSameList.f (k + 1) a0 a1) := by
  intro a0 a1 k
  have ih0 := laws_vtSameList.mono_l k
  unfold laws_vtSameList.f
  repeat' first
      | (with_reducible exact ih0 _ _ _ _)
      | (with_reducible exact LeO.refl _)
      | (with_reducible exact LeO.none _)
      | (with_reducible refine LeO.ite ?_ ?_)
      | (with_reducible refine LeO.bind ?_ (fun _ => ?_))
      | exact ih0 _ _ _ _
      | exact LeO.none _
      | refine LeO.ite ?_ ?_
      | refine LeO.bind ?_ (fun _ => ?_)
set_option maxHeartbeats 8000000 in
set_option maxRecDepth 100000 in
theorem laws_vtSameList.calls (k : Nat) (A0 : Option Addr) (c0 : Nat) (l0 : List ByteArray) (A1 : Option Addr) (c1 : Nat) (l1 : List ByteArray) (r : Bool) (w : World) (hr0 : Kd.C Kd.string w A0 l0.length l0) (hc0 : l0.length ≤ c0) (hr1 : Kd.C Kd.string w A1 l1.length l1) (hc1 : l1.length ≤ c1) (h : laws_vtSameList.f k l0 l1 = some r) :
    Calls Try.prog 11 #[.slice A0 l0.length c0, .slice A1 l1.length c1] w fun e w' => e = .returned (.bool r) ∧ Drawn0 w w' := by
  have HR0 := Aside0.mk hr0
  have HC0 := Aside0.mk hc0
  clear hr0 hc0
  have HR1 := Aside0.mk hr1
  have HC1 := Aside0.mk hc1
  clear hr1 hc1
  have H : (if (l0.length : Int) = (l1.length : Int) then (laws_vtSameList.l0 k l0 l1 (l0.length : Int) 0) else (some false)) = some r := h
  clear h
  by_cases c3 : (l0.length : Int) = (l1.length : Int)
  · rw [if_pos c3] at H
    have c3b0 : ((l0.length : Int) == (l1.length : Int)) = true := beq_iff_eq.mpr c3
    have c3b1 : ((l0.length : Int) != (l1.length : Int)) = false := bne_eq_false_iff_eq.mpr c3
    have c3b2 : (l0.length == l1.length) = true := by first | simpa using c3 | (simp at c3 ⊢; omega)
    clear c3
    have H' := Aside0.mk H
    clear H
    go_enter Try.func11, Try.ntmps11
    go_wp2
    repeat (go_quiet (fail); try go_wp2)
    go_loopg [13] k (fun kq v13 w' => ∃ (x13_1 : Int), v13 = .int .i64 x13_1 ∧ Aside0 (laws_vtSameList.l0 kq l0 l1 (l0.length : Int) x13_1 = some r) ∧ Aside0 (kq ≤ k) ∧ Drawn0 w w')
    case atStart => exact ⟨(0), (by first | rfl | (simp; done) | (simp [*]; done)), H', ⟨Nat.le_refl _⟩, by repeat (first | exact Drawn0.refl _ | apply Drawn0.step)⟩
    case round =>
      clear H'
      try clear c1
      try clear p2
      try clear c3
      try clear c3b0
      try clear c3b1
      try clear c3b2
      obtain ⟨x13_1, rfl, HA, HK1, ⟨m1, rfl⟩⟩ := hrel
      cases gk with
      | zero => exact absurd HA.out (by simp [laws_vtSameList.l0])
      | succ k1 =>
        have H := HA.out
        clear HA
        simp only [laws_vtSameList.l0] at H
        by_cases c4 : x13_1 < (l0.length : Int)
        · rw [if_pos c4] at H
          have c4b0 : decide (x13_1 < (l0.length : Int)) = true := decide_eq_true c4
          clear c4
          by_cases c5 : 0 ≤ x13_1
          · rw [if_pos c5] at H
            have c5b0 : decide (0 ≤ x13_1) = true := decide_eq_true c5
            clear c5
            by_cases c6 : x13_1 < (l0.length : Int)
            · rw [if_pos c6] at H
              have c6b0 : decide (x13_1 < (l0.length : Int)) = true := decide_eq_true c6
              clear c6
              by_cases c7 : x13_1 < (l1.length : Int)
              · rw [if_pos c7] at H
                have c7b0 : decide (x13_1 < (l1.length : Int)) = true := decide_eq_true c7
                clear c7
                by_cases c8 : (rdOf ByteArray.empty l0 x13_1).toList = (rdOf ByteArray.empty l1 x13_1).toList
                · rw [if_pos c8] at H
                  have c8b0 : ((rdOf ByteArray.empty l0 x13_1).toList == (rdOf ByteArray.empty l1 x13_1).toList) = true := beq_iff_eq.mpr c8
                  have c8b1 : ((rdOf ByteArray.empty l0 x13_1).toList != (rdOf ByteArray.empty l1 x13_1).toList) = false := bne_eq_false_iff_eq.mpr c8
                  clear c8
                  have H' := Aside0.mk H
                  clear H
                  have p123 : 0 ≤ (x13_1 : Int) := of_decide_eq_true (by first | (with_reducible assumption) | assumption)
                  have q123 : x13_1 < (l0.length : Int) := of_decide_eq_true (by first | (with_reducible assumption) | assumption)
                  obtain ⟨ad123, e123, hx123_0⟩ := Kd.at_string HR0.out x13_1 p123 q123
                  cases e123
                  replace p123 := eq_true p123
                  replace q123 := eq_true q123
                  have p124 : 0 ≤ (x13_1 : Int) := of_decide_eq_true (by first | (with_reducible assumption) | assumption)
                  have q124 : x13_1 < (l1.length : Int) := of_decide_eq_true (by first | (with_reducible assumption) | assumption)
                  obtain ⟨ad124, e124, hx124_0⟩ := Kd.at_string HR1.out x13_1 p124 q124
                  cases e124
                  replace p124 := eq_true p124
                  replace q124 := eq_true q124
                  go_wp2
                  repeat (go_quiet (fail); try go_wp2)
                  go_roundg k1
                  case measure => have := HK1.out; omega
                  case rel => exact ⟨(wrap64 (x13_1 + 1)), (by first | rfl | (simp; done) | (simp [*]; done)), H', ⟨by have := HK1.out; omega⟩, by repeat (first | exact Drawn0.refl _ | apply Drawn0.step)⟩
                · rw [if_neg c8] at H
                  have c8b0 : ((rdOf ByteArray.empty l0 x13_1).toList == (rdOf ByteArray.empty l1 x13_1).toList) = false := beq_eq_false_iff_ne.mpr c8
                  have c8b1 : ((rdOf ByteArray.empty l0 x13_1).toList != (rdOf ByteArray.empty l1 x13_1).toList) = true := bne_iff_ne.mpr c8
                  obtain rfl := Option.some.inj H
                  have p123 : 0 ≤ (x13_1 : Int) := of_decide_eq_true (by first | (with_reducible assumption) | assumption)
                  have q123 : x13_1 < (l0.length : Int) := of_decide_eq_true (by first | (with_reducible assumption) | assumption)
                  obtain ⟨ad123, e123, hx123_0⟩ := Kd.at_string HR0.out x13_1 p123 q123
                  cases e123
                  replace p123 := eq_true p123
                  replace q123 := eq_true q123
                  have p124 : 0 ≤ (x13_1 : Int) := of_decide_eq_true (by first | (with_reducible assumption) | assumption)
                  have q124 : x13_1 < (l1.length : Int) := of_decide_eq_true (by first | (with_reducible assumption) | assumption)
                  obtain ⟨ad124, e124, hx124_0⟩ := Kd.at_string HR1.out x13_1 p124 q124
                  cases e124
                  replace p124 := eq_true p124
                  replace q124 := eq_true q124
                  go_wp2
                  repeat (go_quiet (fail); try go_wp2)
                  go_ret
                  exact ⟨by first | rfl | (simp; done) | (simp [*]; done), by repeat (first | exact Drawn0.refl _ | apply Drawn0.step)⟩
              · rw [if_neg c7] at H
                exact absurd H (by simp)
            · rw [if_neg c6] at H
              exact absurd H (by simp)
          · rw [if_neg c5] at H
            exact absurd H (by simp)
        · rw [if_neg c4] at H
          have c4b0 : decide (x13_1 < (l0.length : Int)) = false := decide_eq_false c4
          clear c4
          obtain rfl := Option.some.inj H
          go_wp2
          repeat (go_quiet (fail); try go_wp2)
          go_ret
          exact ⟨by first | rfl | (simp; done) | (simp [*]; done), by repeat (first | exact Drawn0.refl _ | apply Drawn0.step)⟩
  · rw [if_neg c3] at H
    have c3b0 : ((l0.length : Int) == (l1.length : Int)) = false := beq_eq_false_iff_ne.mpr c3
    have c3b1 : ((l0.length : Int) != (l1.length : Int)) = true := bne_iff_ne.mpr c3
    have c3b2 : (l0.length == l1.length) = false := by first | simpa using c3 | (simp at c3 ⊢; omega)
    obtain rfl := Option.some.inj H
    go_enter Try.func11, Try.ntmps11
    go_wp2
    repeat (go_quiet (fail); try go_wp2)
    go_ret
    exact ⟨by first | rfl | (simp; done) | (simp [*]; done), by repeat (first | exact Drawn0.refl _ | apply Drawn0.step)⟩

/-! ### spec_Meet: function 12 -/
mutual
def spec_Meet.l0 : Nat → List ByteArray → List ByteArray → Int → List ByteArray → Int → Int → Option (List ByteArray)
  | 0, _, _, _, _, _, _ => none
  | k + 1, x1, x5, x6, x9, x10, x11 => if x11 < x10 then (if 0 ≤ x11 then (if x11 < (x9.length : Int) then (spec_Meet.l1 k x1 x5 x6 (rdOf ByteArray.empty x9 x11) x9 x10 x11) else (none)) else (none)) else (some x5)
def spec_Meet.l1 : Nat → List ByteArray → List ByteArray → Int → ByteArray → List ByteArray → Int → Int → Option (List ByteArray)
  | 0, _, _, _, _, _, _, _ => none
  | k + 1, x1, x5, x6, x8, x9, x10, x11 => if x6 < (x1.length : Int) then (if 0 ≤ x6 then (if (Op.bytesLess ((rdOf ByteArray.empty x1 x6).toList) x8.toList) = true then (spec_Meet.l1 k x1 x5 (wrap64 (x6 + 1)) x8 x9 x10 x11) else (if (rdOf ByteArray.empty x1 x6).toList = x8.toList then (if x5.length < 8796093022208 then (spec_Meet.l0 k x1 (x5 ++ [x8]) x6 x9 x10 (wrap64 (x11 + 1))) else (none)) else (spec_Meet.l0 k x1 x5 x6 x9 x10 (wrap64 (x11 + 1))))) else (none)) else (spec_Meet.l0 k x1 x5 x6 x9 x10 (wrap64 (x11 + 1)))
end
def spec_Meet.f (k : Nat) (l0 : List ByteArray) (l1 : List ByteArray) : Option (List ByteArray) := spec_Meet.l0 k l1 ([] : List ByteArray) 0 l0 (l0.length : Int) 0
theorem spec_Meet.mono_l : ∀ k, (∀ y0 y1 y2 y3 y4 y5, LeO (spec_Meet.l0 k y0 y1 y2 y3 y4 y5) (spec_Meet.l0 (k + 1) y0 y1 y2 y3 y4 y5)) ∧ (∀ y0 y1 y2 y3 y4 y5 y6, LeO (spec_Meet.l1 k y0 y1 y2 y3 y4 y5 y6) (spec_Meet.l1 (k + 1) y0 y1 y2 y3 y4 y5 y6))
  | 0 => ⟨fun _ _ _ _ _ _ r h => by simp [spec_Meet.l0] at h, fun _ _ _ _ _ _ _ r h => by simp [spec_Meet.l1] at h⟩
  | k + 1 => by
    obtain ⟨ih0, ih1⟩ := spec_Meet.mono_l k
    refine ⟨?_, ?_⟩
    · intro y0 y1 y2 y3 y4 y5
      unfold spec_Meet.l0
      repeat' first
      | (with_reducible exact ih0 _ _ _ _ _ _)
      | (with_reducible exact ih1 _ _ _ _ _ _ _)
      | (with_reducible exact LeO.refl _)
      | (with_reducible exact LeO.none _)
      | (with_reducible refine LeO.ite ?_ ?_)
      | (with_reducible refine LeO.bind ?_ (fun _ => ?_))
      | exact ih0 _ _ _ _ _ _
      | exact ih1 _ _ _ _ _ _ _
      | exact LeO.none _
      | refine LeO.ite ?_ ?_
      | refine LeO.bind ?_ (fun _ => ?_)
    · intro y0 y1 y2 y3 y4 y5 y6
      unfold spec_Meet.l1
      repeat' first
      | (with_reducible exact ih0 _ _ _ _ _ _)
      | (with_reducible exact ih1 _ _ _ _ _ _ _)
      | (with_reducible exact LeO.refl _)
      | (with_reducible exact LeO.none _)
      | (with_reducible refine LeO.ite ?_ ?_)
      | (with_reducible refine LeO.bind ?_ (fun _ => ?_))
      | exact ih0 _ _ _ _ _ _
      | exact ih1 _ _ _ _ _ _ _
      | exact LeO.none _
      | refine LeO.ite ?_ ?_
      | refine LeO.bind ?_ (fun _ => ?_)
theorem spec_Meet.mono : ∀ a0 a1 k, LeO (spec_Meet.f k a0 a1) (spec_Meet.f (k + 1) a0 a1) := by
  intro a0 a1 k
  obtain ⟨ih0, ih1⟩ := spec_Meet.mono_l k
  unfold spec_Meet.f
  repeat' first
      | (with_reducible exact ih0 _ _ _ _ _ _)
      | (with_reducible exact ih1 _ _ _ _ _ _ _)
      | (with_reducible exact LeO.refl _)
      | (with_reducible exact LeO.none _)
      | (with_reducible refine LeO.ite ?_ ?_)
      | (with_reducible refine LeO.bind ?_ (fun _ => ?_))
      | exact ih0 _ _ _ _ _ _
      | exact ih1 _ _ _ _ _ _ _
      | exact LeO.none _
      | refine LeO.ite ?_ ?_
      | refine LeO.bind ?_ (fun _ => ?_)
set_option maxHeartbeats 8000000 in
set_option maxRecDepth 100000 in
theorem spec_Meet.calls (k : Nat) (A0 : Option Addr) (c0 : Nat) (l0 : List ByteArray) (A1 : Option Addr) (c1 : Nat) (l1 : List ByteArray) (r : List ByteArray) (w : World) (hr0 : Kd.C Kd.string w A0 l0.length l0) (hc0 : l0.length ≤ c0) (hr1 : Kd.C Kd.string w A1 l1.length l1) (hc1 : l1.length ≤ c1) (h : spec_Meet.f k l0 l1 = some r) :
    Calls Try.prog 12 #[.slice A0 l0.length c0, .slice A1 l1.length c1] w fun e w' => ∃ v0_ : Value, e = .returned (v0_) ∧ Kd.R Kd.string 9 w' w.heap.size (fun _ => True) v0_ r ∧ Below w.heap.size w w' := by
  have HR0 := Aside0.mk hr0
  have HC0 := Aside0.mk hc0
  clear hr0 hc0
  have HR1 := Aside0.mk hr1
  have HC1 := Aside0.mk hc1
  clear hr1 hc1
  have HB := Aside0.mk (Below.refl w.heap.size w)
  have H : (spec_Meet.l0 k l1 ([] : List ByteArray) 0 l0 (l0.length : Int) 0) = some r := h
  clear h
  have H' := Aside0.mk H
  clear H
  go_enter Try.func12, Try.ntmps12
  go_wp2
  go_loopg [5, 6, 11] k (fun kq v5 v6 v11 w' => ∃ (x5_1 : List ByteArray) (x6_1 : Int) (x11_1 : Int), v6 = .int .i64 x6_1 ∧ v11 = .int .i64 x11_1 ∧ Aside0 (spec_Meet.l0 kq l1 x5_1 x6_1 l0 (l0.length : Int) x11_1 = some r) ∧ Aside0 (kq ≤ k) ∧ Aside0 (Kd.R Kd.string 9 w' w.heap.size (fun _ => True) v5 x5_1) ∧ Aside0 (Below w.heap.size w w'))
  case atStart => exact ⟨(([] : List ByteArray)), (0), (0), (by first | rfl | (simp; done) | (simp [*]; done)), (by first | rfl | (simp; done) | (simp [*]; done)), H', ⟨Nat.le_refl _⟩, ⟨by first | exact Kd.R_nil _ _ _ _ _ | exact Kd.N_nil _ _ _ _ _ | exact Kd.V_nil _ _ _ _ _ | exact Kd.Q_nil _ _ _ _ _ | exact Kd.S_nil _ _ _ _ _⟩, ⟨by repeat (first | (with_reducible first | exact HB.out | apply below_alloc | apply pw_below_drewN | apply below_drew1) | exact HB.out)⟩⟩
  case round =>
    clear H'
    try clear c1
    try clear p2
    obtain ⟨x5_1, x6_1, x11_1, rfl, rfl, HA, HK1, HO_5, HB⟩ := hrel
    cases gk with
    | zero => exact absurd HA.out (by simp [spec_Meet.l0])
    | succ k1 =>
      have H := HA.out
      clear HA
      simp only [spec_Meet.l0] at H
      by_cases c3 : x11_1 < (l0.length : Int)
      · rw [if_pos c3] at H
        have c3b0 : decide (x11_1 < (l0.length : Int)) = true := decide_eq_true c3
        clear c3
        by_cases c4 : 0 ≤ x11_1
        · rw [if_pos c4] at H
          have c4b0 : decide (0 ≤ x11_1) = true := decide_eq_true c4
          clear c4
          by_cases c5 : x11_1 < (l0.length : Int)
          · rw [if_pos c5] at H
            have c5b0 : decide (x11_1 < (l0.length : Int)) = true := decide_eq_true c5
            clear c5
            have H' := Aside0.mk H
            clear H
            have p125 : 0 ≤ (x11_1 : Int) := of_decide_eq_true (by first | (with_reducible assumption) | assumption)
            have q125 : x11_1 < (l0.length : Int) := of_decide_eq_true (by first | (with_reducible assumption) | assumption)
            obtain ⟨ad125, e125, hx125_0⟩ := Kd.at_string HR0.out x11_1 p125 q125
            cases e125
            replace hx125_0 := (HB.out.cell (World.block_lt_of_cell? w _ hx125_0)).trans hx125_0
            replace p125 := eq_true p125
            replace q125 := eq_true q125
            go_wp2
            go_loopg [6] k1 (fun kq v6 w' => ∃ (x6_2 : Int), v6 = .int .i64 x6_2 ∧ Aside0 (spec_Meet.l1 kq l1 x5_1 x6_2 (rdOf ByteArray.empty l0 x11_1) l0 (l0.length : Int) x11_1 = some r) ∧ Aside0 (kq ≤ k1) ∧ Aside0 (Kd.R Kd.string 9 w' w.heap.size (fun _ => True) u5 x5_1) ∧ Aside0 (Below w.heap.size w w'))
            case atStart => exact ⟨(x6_1), (by first | rfl | (simp; done) | (simp [*]; done)), H', ⟨Nat.le_refl _⟩, ⟨by (with_reducible repeat (first | apply Kd.R_alloc | apply Kd.R_drewN | apply Kd.R_drew)); exact HO_5.out⟩, ⟨by repeat (first | (with_reducible first | exact HB.out | apply below_alloc | apply pw_below_drewN | apply below_drew1) | exact HB.out)⟩⟩
            case round =>
              clear H'
              try clear c1
              try clear p1
              try clear q1
              try clear hx1
              try clear p2
              try clear c3
              try clear c3b0
              try clear c4
              try clear c4b0
              try clear c5
              try clear c5b0
              try clear hx125_0
              try clear p125
              try clear p2
              try clear q125
              obtain ⟨x6_2, rfl, HA, HK2, HO_5, HB⟩ := hrel
              cases gk with
              | zero => exact absurd HA.out (by simp [spec_Meet.l1])
              | succ k2 =>
                have H := HA.out
                clear HA
                simp only [spec_Meet.l1] at H
                by_cases c6 : x6_2 < (l1.length : Int)
                · rw [if_pos c6] at H
                  have c6b0 : decide (x6_2 < (l1.length : Int)) = true := decide_eq_true c6
                  clear c6
                  by_cases c7 : 0 ≤ x6_2
                  · rw [if_pos c7] at H
                    have c7b0 : decide (0 ≤ x6_2) = true := decide_eq_true c7
                    clear c7
                    by_cases c8 : (Op.bytesLess ((rdOf ByteArray.empty l1 x6_2).toList) (rdOf ByteArray.empty l0 x11_1).toList) = true
                    · rw [if_pos c8] at H
                      have c8b0 : (Op.bytesLess ((rdOf ByteArray.empty l1 x6_2).toList) (rdOf ByteArray.empty l0 x11_1).toList) = true := c8
                      clear c8
                      have H' := Aside0.mk H
                      clear H
                      have p126 : 0 ≤ (x6_2 : Int) := of_decide_eq_true (by first | (with_reducible assumption) | assumption)
                      have q126 : x6_2 < (l1.length : Int) := of_decide_eq_true (by first | (with_reducible assumption) | assumption)
                      obtain ⟨ad126, e126, hx126_0⟩ := Kd.at_string HR1.out x6_2 p126 q126
                      cases e126
                      replace hx126_0 := (HB.out.cell (World.block_lt_of_cell? w _ hx126_0)).trans hx126_0
                      replace p126 := eq_true p126
                      replace q126 := eq_true q126
                      go_wp2
                      go_roundg k2
                      case measure => have := HK1.out; have := HK2.out; omega
                      case rel => exact ⟨(wrap64 (x6_2 + 1)), (by first | rfl | (simp; done) | (simp [*]; done)), H', ⟨by have := HK1.out; have := HK2.out; omega⟩, ⟨by (with_reducible repeat (first | apply Kd.R_alloc | apply Kd.R_drewN | apply Kd.R_drew)); exact HO_5.out⟩, ⟨by repeat (first | (with_reducible first | exact HB.out | apply below_alloc | apply pw_below_drewN | apply below_drew1) | exact HB.out)⟩⟩
                    · rw [if_neg c8] at H
                      have c8b0 : (Op.bytesLess ((rdOf ByteArray.empty l1 x6_2).toList) (rdOf ByteArray.empty l0 x11_1).toList) = false := by simpa using c8
                      clear c8
                      by_cases c9 : (rdOf ByteArray.empty l1 x6_2).toList = (rdOf ByteArray.empty l0 x11_1).toList
                      · rw [if_pos c9] at H
                        have c9b0 : ((rdOf ByteArray.empty l1 x6_2).toList == (rdOf ByteArray.empty l0 x11_1).toList) = true := beq_iff_eq.mpr c9
                        have c9b1 : ((rdOf ByteArray.empty l1 x6_2).toList != (rdOf ByteArray.empty l0 x11_1).toList) = false := bne_eq_false_iff_eq.mpr c9
                        clear c9
                        by_cases c10 : x5_1.length < 8796093022208
                        · rw [if_pos c10] at H
                          have LMc10 := Aside0.mk c10
                          clear c10
                          obtain ⟨y128, hy128⟩ : ∃ y_ : List ByteArray, y_ = (x5_1 ++ [(rdOf ByteArray.empty l0 x11_1)]) := ⟨_, rfl⟩
                          replace H : (spec_Meet.l0 k2 l1 y128 x6_2 l0 (l0.length : Int) (wrap64 (x11_1 + 1))) = some r := by first | (rw [hy128]; with_reducible exact H) | (have H2_ := (Option.bind_some _ _).symm.trans H; rw [hy128]; with_reducible exact H2_) | (have H2_ := (Option.bind_some _ _).symm.trans H; with_reducible exact H2_) | with_reducible exact H | (rw [hy128]; exact H) | exact H
                          have Ny128 := Aside0.mk hy128
                          clear hy128
                          have H' := Aside0.mk H
                          clear H
                          have p126 : 0 ≤ (x6_2 : Int) := of_decide_eq_true (by first | (with_reducible assumption) | assumption)
                          have q126 : x6_2 < (l1.length : Int) := of_decide_eq_true (by first | (with_reducible assumption) | assumption)
                          obtain ⟨ad126, e126, hx126_0⟩ := Kd.at_string HR1.out x6_2 p126 q126
                          cases e126
                          replace hx126_0 := (HB.out.cell (World.block_lt_of_cell? w _ hx126_0)).trans hx126_0
                          replace p126 := eq_true p126
                          replace q126 := eq_true q126
                          have p127 : 0 ≤ (x6_2 : Int) := of_decide_eq_true (by first | (with_reducible assumption) | assumption)
                          have q127 : x6_2 < (l1.length : Int) := of_decide_eq_true (by first | (with_reducible assumption) | assumption)
                          obtain ⟨ad127, e127, hx127_0⟩ := Kd.at_string HR1.out x6_2 p127 q127
                          obtain rfl : ad126 = ad127 := (by injection e127)
                          replace hx127_0 := (HB.out.cell (World.block_lt_of_cell? w _ hx127_0)).trans hx127_0
                          replace p127 := eq_true p127
                          replace q127 := eq_true q127
                          go_wp2_with (first | ((with_reducible refine gate_builtin (b := .append) (xs := #[.tmp 41, .tmp 43]) rfl ?_); at_builtin; refine Kd.R_append Kd.string (w0 := w) w.heap.size rfl (.tmp 41) (.tmp 43) 25 9 (.string ⟨#[]⟩) 16 rfl Try.underlying25 info9 rfl (by decide) (by omega) u5 x5_1 (rdOf ByteArray.empty l0 x11_1) [.string (rdOf ByteArray.empty l0 x11_1)] (fun _ => True) (fun _ => False) rfl rfl ?aP (fun _ hk => hk.elim) ?aF ?aO ?aB ?aS ?aL ?_; (case aP => exact rfl); (case aB => exact (by repeat (first | (with_reducible first | exact HB.out | apply below_alloc | apply pw_below_drewN | apply below_drew1) | exact HB.out))); (case aF => exact (fun _ _ => trivial)); (case aO => exact (by (with_reducible repeat (first | apply Kd.R_alloc | apply Kd.R_drewN | apply Kd.R_drew)); exact HO_5.out)); (case aS => exact (below_size (by repeat (first | (with_reducible first | exact HB.out | apply below_alloc | apply pw_below_drewN | apply below_drew1) | exact HB.out)))); (case aL => have := LMc10.out; omega); intro v129 w11 ho hb hg hat; rw [← Ny128.out] at ho; have n0_ := Aside0.mk (hb); have n1_ := Aside0.mk (ho); clear HB; clear HO_5; have HB := n0_; have HO130 := n1_; clear n0_ n1_; clear ho hb hg hat))
                          go_roundg k2
                          case measure => have := HK1.out; have := HK2.out; omega
                          case rel => exact ⟨(y128), (x6_2), (wrap64 (x11_1 + 1)), (by first | rfl | (simp; done) | (simp [*]; done)), (by first | rfl | (simp; done) | (simp [*]; done)), H', ⟨by have := HK1.out; have := HK2.out; omega⟩, ⟨by (with_reducible repeat (first | apply Kd.R_alloc | apply Kd.R_drewN | apply Kd.R_drew)); exact HO130.out⟩, ⟨by repeat (first | (with_reducible first | exact HB.out | apply below_alloc | apply pw_below_drewN | apply below_drew1) | exact HB.out)⟩⟩
                        · rw [if_neg c10] at H
                          exact absurd H (by simp)
                      · rw [if_neg c9] at H
                        have c9b0 : ((rdOf ByteArray.empty l1 x6_2).toList == (rdOf ByteArray.empty l0 x11_1).toList) = false := beq_eq_false_iff_ne.mpr c9
                        have c9b1 : ((rdOf ByteArray.empty l1 x6_2).toList != (rdOf ByteArray.empty l0 x11_1).toList) = true := bne_iff_ne.mpr c9
                        have H' := Aside0.mk H
                        clear H
                        have p126 : 0 ≤ (x6_2 : Int) := of_decide_eq_true (by first | (with_reducible assumption) | assumption)
                        have q126 : x6_2 < (l1.length : Int) := of_decide_eq_true (by first | (with_reducible assumption) | assumption)
                        obtain ⟨ad126, e126, hx126_0⟩ := Kd.at_string HR1.out x6_2 p126 q126
                        cases e126
                        replace hx126_0 := (HB.out.cell (World.block_lt_of_cell? w _ hx126_0)).trans hx126_0
                        replace p126 := eq_true p126
                        replace q126 := eq_true q126
                        have p127 : 0 ≤ (x6_2 : Int) := of_decide_eq_true (by first | (with_reducible assumption) | assumption)
                        have q127 : x6_2 < (l1.length : Int) := of_decide_eq_true (by first | (with_reducible assumption) | assumption)
                        obtain ⟨ad127, e127, hx127_0⟩ := Kd.at_string HR1.out x6_2 p127 q127
                        obtain rfl : ad126 = ad127 := (by injection e127)
                        replace hx127_0 := (HB.out.cell (World.block_lt_of_cell? w _ hx127_0)).trans hx127_0
                        replace p127 := eq_true p127
                        replace q127 := eq_true q127
                        go_wp2
                        go_roundg k2
                        case measure => have := HK1.out; have := HK2.out; omega
                        case rel => exact ⟨(x5_1), (x6_2), (wrap64 (x11_1 + 1)), (by first | rfl | (simp; done) | (simp [*]; done)), (by first | rfl | (simp; done) | (simp [*]; done)), H', ⟨by have := HK1.out; have := HK2.out; omega⟩, ⟨by (with_reducible repeat (first | apply Kd.R_alloc | apply Kd.R_drewN | apply Kd.R_drew)); exact HO_5.out⟩, ⟨by repeat (first | (with_reducible first | exact HB.out | apply below_alloc | apply pw_below_drewN | apply below_drew1) | exact HB.out)⟩⟩
                  · rw [if_neg c7] at H
                    exact absurd H (by simp)
                · rw [if_neg c6] at H
                  have c6b0 : decide (x6_2 < (l1.length : Int)) = false := decide_eq_false c6
                  clear c6
                  have H' := Aside0.mk H
                  clear H
                  go_wp2
                  go_roundg k2
                  case measure => have := HK1.out; have := HK2.out; omega
                  case rel => exact ⟨(x5_1), (x6_2), (wrap64 (x11_1 + 1)), (by first | rfl | (simp; done) | (simp [*]; done)), (by first | rfl | (simp; done) | (simp [*]; done)), H', ⟨by have := HK1.out; have := HK2.out; omega⟩, ⟨by (with_reducible repeat (first | apply Kd.R_alloc | apply Kd.R_drewN | apply Kd.R_drew)); exact HO_5.out⟩, ⟨by repeat (first | (with_reducible first | exact HB.out | apply below_alloc | apply pw_below_drewN | apply below_drew1) | exact HB.out)⟩⟩
          · rw [if_neg c5] at H
            exact absurd H (by simp)
        · rw [if_neg c4] at H
          exact absurd H (by simp)
      · rw [if_neg c3] at H
        have c3b0 : decide (x11_1 < (l0.length : Int)) = false := decide_eq_false c3
        clear c3
        obtain rfl := Option.some.inj H
        go_wp2
        go_ret
        exact ⟨_, by first | rfl | (simp [errW_none, errW_some] <;> rfl) | (simp [*, errW_none, errW_some] <;> rfl), by (with_reducible repeat (first | apply Kd.R_alloc | apply Kd.R_drewN | apply Kd.R_drew)); exact HO_5.out, by repeat (first | (with_reducible first | exact HB.out | apply below_alloc | apply pw_below_drewN | apply below_drew1) | exact HB.out)⟩

/-! ### laws_FnVtMeet: function 4 -/
mutual
def laws_FnVtMeet.j0 : Nat → List ByteArray → List ByteArray → Bool → Option (Bool)
  | 0, _, _, _ => none
  | k + 1, x0, x1, x19 => if x19 = true then (some true) else ((laws_vtSet.f k x0).bind fun t133 => (if t133 = true then ((laws_vtSet.f k x1).bind fun t134 => (laws_FnVtMeet.j1 k x0 x1 (!t134))) else (laws_FnVtMeet.j1 k x0 x1 true)))
def laws_FnVtMeet.j1 : Nat → List ByteArray → List ByteArray → Bool → Option (Bool)
  | 0, _, _, _ => none
  | k + 1, x0, x1, x27 => if x27 = true then (some true) else ((impl_VtMeet.f x0 x1).bind fun bt135 => (laws_FnVtMeet.l0 k x0 x1 bt135.1 bt135.2 ([] : List ByteArray) x0 (x0.length : Int) 0))
def laws_FnVtMeet.l0 : Nat → List ByteArray → List ByteArray → List ByteArray → List ByteArray → List ByteArray → List ByteArray → Int → Int → Option (Bool)
  | 0, _, _, _, _, _, _, _, _ => none
  | k + 1, x0, x1, x5, x6, x7, x34, x35, x36 => if x36 < x35 then (if 0 ≤ x36 then (if x36 < (x34.length : Int) then (if 1 + (rdOf ByteArray.empty x34 x36).size ≤ 9223372036854775807 then (if x7.length < 8796093022208 then (laws_FnVtMeet.l0 k x0 x1 x5 x6 (x7 ++ [(⟨#[97]⟩ : ByteArray) ++ (rdOf ByteArray.empty x34 x36)]) x34 x35 (wrap64 (x36 + 1))) else (none)) else (none)) else (none)) else (none)) else ((impl_VtMeet.f (([(⟨#[105]⟩ : ByteArray)] : List ByteArray)) (([(⟨#[105]⟩ : ByteArray)] : List ByteArray))).bind fun bt151 => ((spec_Meet.f k x0 x1).bind fun t157 => ((laws_vtSameList.f k x5 t157).bind fun t160 => (if t160 = true then ((laws_vtSameList.f k x6 x7).bind fun t161 => (if t161 = true then ((laws_vtSameList.f k bt151.1 (([(⟨#[105]⟩ : ByteArray)] : List ByteArray))).bind fun t165 => (some t165)) else (some false))) else (some false)))))
end
def laws_FnVtMeet.f (k : Nat) (l0 : List ByteArray) (l1 : List ByteArray) : Option (Bool) := (laws_zzFits5.f k l0).bind fun t131 => (if t131 = true then ((laws_zzFits5.f k l1).bind fun t132 => (laws_FnVtMeet.j0 k l0 l1 (!t132))) else (laws_FnVtMeet.j0 k l0 l1 true))
theorem laws_FnVtMeet.mono_l : ∀ k, (∀ y0 y1 y2, LeO (laws_FnVtMeet.j0 k y0 y1 y2) (laws_FnVtMeet.j0 (k + 1) y0 y1 y2)) ∧ (∀ y0 y1 y2, LeO (laws_FnVtMeet.j1 k y0 y1 y2) (laws_FnVtMeet.j1 (k + 1) y0 y1 y2)) ∧ (∀ y0 y1 y2 y3 y4 y5 y6 y7, LeO (laws_FnVtMeet.l0 k y0 y1 y2 y3 y4 y5 y6 y7) (laws_FnVtMeet.l0 (k + 1) y0 y1 y2 y3 y4 y5 y6 y7))
  | 0 => ⟨fun _ _ _ r h => by simp [laws_FnVtMeet.j0] at h, fun _ _ _ r h => by simp [laws_FnVtMeet.j1] at h, fun _ _ _ _ _ _ _ _ r h => by simp [laws_FnVtMeet.l0] at h⟩
  | k + 1 => by
    obtain ⟨ih0, ih1, ih2⟩ := laws_FnVtMeet.mono_l k
    refine ⟨?_, ?_, ?_⟩
    · intro y0 y1 y2
      unfold laws_FnVtMeet.j0
      repeat' first
      | (with_reducible exact ih0 _ _ _)
      | (with_reducible exact ih1 _ _ _)
      | (with_reducible exact ih2 _ _ _ _ _ _ _ _)
      | (with_reducible exact laws_vtSameList.mono _ _ _)
      | (with_reducible exact laws_vtSet.mono _ _)
      | (with_reducible exact laws_zzFits5.mono _ _)
      | (with_reducible exact spec_Meet.mono _ _ _)
      | (with_reducible exact LeO.refl _)
      | (with_reducible exact LeO.none _)
      | (with_reducible refine LeO.ite ?_ ?_)
      | (with_reducible refine LeO.bind ?_ (fun _ => ?_))
      | exact ih0 _ _ _
      | exact ih1 _ _ _
      | exact ih2 _ _ _ _ _ _ _ _
      | exact laws_vtSameList.mono _ _ _
      | exact laws_vtSet.mono _ _
      | exact laws_zzFits5.mono _ _
      | exact spec_Meet.mono _ _ _
      | exact LeO.none _
      | refine LeO.ite ?_ ?_
      | refine LeO.bind ?_ (fun _ => ?_)
    · intro y0 y1 y2
      unfold laws_FnVtMeet.j1
      repeat' first
      | (with_reducible exact ih0 _ _ _)
      | (with_reducible exact ih1 _ _ _)
      | (with_reducible exact ih2 _ _ _ _ _ _ _ _)
      | (with_reducible exact laws_vtSameList.mono _ _ _)
      | (with_reducible exact laws_vtSet.mono _ _)
      | (with_reducible exact laws_zzFits5.mono _ _)
      | (with_reducible exact spec_Meet.mono _ _ _)
      | (with_reducible exact LeO.refl _)
      | (with_reducible exact LeO.none _)
      | (with_reducible refine LeO.ite ?_ ?_)
      | (with_reducible refine LeO.bind ?_ (fun _ => ?_))
      | exact ih0 _ _ _
      | exact ih1 _ _ _
      | exact ih2 _ _ _ _ _ _ _ _
      | exact laws_vtSameList.mono _ _ _
      | exact laws_vtSet.mono _ _
      | exact laws_zzFits5.mono _ _
      | exact spec_Meet.mono _ _ _
      | exact LeO.none _
      | refine LeO.ite ?_ ?_
      | refine LeO.bind ?_ (fun _ => ?_)
    · intro y0 y1 y2 y3 y4 y5 y6 y7
      unfold laws_FnVtMeet.l0
      repeat' first
      | (with_reducible exact ih0 _ _ _)
      | (with_reducible exact ih1 _ _ _)
      | (with_reducible exact ih2 _ _ _ _ _ _ _ _)
      | (with_reducible exact laws_vtSameList.mono _ _ _)
      | (with_reducible exact laws_vtSet.mono _ _)
      | (with_reducible exact laws_zzFits5.mono _ _)
      | (with_reducible exact spec_Meet.mono _ _ _)
      | (with_reducible exact LeO.refl _)
      | (with_reducible exact LeO.none _)
      | (with_reducible refine LeO.ite ?_ ?_)
      | (with_reducible refine LeO.bind ?_ (fun _ => ?_))
      | exact ih0 _ _ _
      | exact ih1 _ _ _
      | exact ih2 _ _ _ _ _ _ _ _
      | exact laws_vtSameList.mono _ _ _
      | exact laws_vtSet.mono _ _
      | exact laws_zzFits5.mono _ _
      | exact spec_Meet.mono _ _ _
      | exact LeO.none _
      | refine LeO.ite ?_ ?_
      | refine LeO.bind ?_ (fun _ => ?_)
theorem laws_FnVtMeet.mono : ∀ a0 a1 k, LeO (laws_FnVtMeet.f k a0 a1) (laws_FnVtMeet.f (k + 1) a0 a1) := by
  intro a0 a1 k
  obtain ⟨ih0, ih1, ih2⟩ := laws_FnVtMeet.mono_l k
  unfold laws_FnVtMeet.f
  repeat' first
      | (with_reducible exact ih0 _ _ _)
      | (with_reducible exact ih1 _ _ _)
      | (with_reducible exact ih2 _ _ _ _ _ _ _ _)
      | (with_reducible exact laws_vtSameList.mono _ _ _)
      | (with_reducible exact laws_vtSet.mono _ _)
      | (with_reducible exact laws_zzFits5.mono _ _)
      | (with_reducible exact spec_Meet.mono _ _ _)
      | (with_reducible exact LeO.refl _)
      | (with_reducible exact LeO.none _)
      | (with_reducible refine LeO.ite ?_ ?_)
      | (with_reducible refine LeO.bind ?_ (fun _ => ?_))
      | exact ih0 _ _ _
      | exact ih1 _ _ _
      | exact ih2 _ _ _ _ _ _ _ _
      | exact laws_vtSameList.mono _ _ _
      | exact laws_vtSet.mono _ _
      | exact laws_zzFits5.mono _ _
      | exact spec_Meet.mono _ _ _
      | exact LeO.none _
      | refine LeO.ite ?_ ?_
      | refine LeO.bind ?_ (fun _ => ?_)
set_option maxHeartbeats 8000000 in
set_option maxRecDepth 100000 in
theorem laws_FnVtMeet.calls (k : Nat) (A0 : Option Addr) (c0 : Nat) (l0 : List ByteArray) (A1 : Option Addr) (c1 : Nat) (l1 : List ByteArray) (r : Bool) (w : World) (hr0 : Kd.C Kd.string w A0 l0.length l0) (hc0 : l0.length ≤ c0) (hr1 : Kd.C Kd.string w A1 l1.length l1) (hc1 : l1.length ≤ c1) (h : laws_FnVtMeet.f k l0 l1 = some r) :
    Calls Try.prog 4 #[.slice A0 l0.length c0, .slice A1 l1.length c1] w fun e w' => e = .returned (.bool r) ∧ Below w.heap.size w w' := by
  have HR0 := Aside0.mk hr0
  have HC0 := Aside0.mk hc0
  clear hr0 hc0
  have HR1 := Aside0.mk hr1
  have HC1 := Aside0.mk hc1
  clear hr1 hc1
  have HB := Aside0.mk (Below.refl w.heap.size w)
  have H : ((laws_zzFits5.f k l0).bind fun t131 => (if t131 = true then ((laws_zzFits5.f k l1).bind fun t132 => (laws_FnVtMeet.j0 k l0 l1 (!t132))) else (laws_FnVtMeet.j0 k l0 l1 true))) = some r := h
  clear h
  have HC3 := Aside0.mk H
  clear H
  go_enter Try.func4, Try.ntmps4
  go_upto_region 1 with (fail)
  go_cut [19] (fun v19 wc => ∃ (kq : Nat) (x19_2 : Bool), v19 = .bool x19_2 ∧ Aside0 (laws_FnVtMeet.j0 kq l0 l1 x19_2 = some r) ∧ Aside0 (kq ≤ k) ∧ Aside0 (Below w.heap.size w wc))
  case first =>
    have H := HC3.out
    clear HC3
    replace H := Option.bind_eq_some_iff.mp H
    obtain ⟨t131, A40, H⟩ := H
    replace H : (if t131 = true then ((laws_zzFits5.f k l1).bind fun t132 => (laws_FnVtMeet.j0 k l0 l1 (!t132))) else (laws_FnVtMeet.j0 k l0 l1 true)) = some r := H
    have A4 := Aside0.mk A40
    clear A40
    by_cases c5 : t131 = true
    · subst c5
      have H1 : ((laws_zzFits5.f k l1).bind fun t132 => (laws_FnVtMeet.j0 k l0 l1 (!t132))) = some r := by rw [if_pos rfl] at H; exact H
      clear H
      have H := H1
      clear H1
      replace H := Option.bind_eq_some_iff.mp H
      obtain ⟨t132, A60, H⟩ := H
      replace H : (laws_FnVtMeet.j0 k l0 l1 (!t132)) = some r := H
      have A6 := Aside0.mk A60
      clear A60
      have H' := Aside0.mk H
      clear H
      go_wp2_with (first | ((with_reducible refine gate_callee (f := 8) rfl ?_); refine goesL_ (some 13) rfl rfl Try.func8 (by kernel_rfl) rfl #[.slice A0 l0.length c0] rfl (by (try simp only [List.map_toArray, List.map_cons, List.map_nil]); first | done | rfl | (simp only [List.length_drop, List.length_take]; rfl)) ?_; (with_reducible refine (laws_zzFits5.calls k _ _ l0 true _ ?side1 ?side2 A4.out).mono ?_); (case side1 => repeat (first | exact (Kd.C_below HR0.out HB.out) | (with_reducible refine Kd.C_alloc ?_ _) | (with_reducible refine Kd.C_drewN ?_ _) | (with_reducible refine Kd.C_drew ?_))); (case side2 => exact HC0.out); rintro e w' ⟨rfl, ⟨nd, rfl⟩⟩; refine ⟨_, rfl, ?_⟩) | (go_at_call 8; (with_reducible refine (laws_zzFits5.calls k _ _ l1 t132 _ ?side1 ?side2 A6.out).mono ?_); (case side1 => repeat (first | exact (Kd.C_below HR1.out (by repeat (first | (with_reducible first | exact HB.out | apply below_alloc | apply pw_below_drewN | apply below_drew1) | exact HB.out))) | (with_reducible refine Kd.C_alloc ?_ _) | (with_reducible refine Kd.C_drewN ?_ _) | (with_reducible refine Kd.C_drew ?_))); (case side2 => exact HC1.out); rintro e w' ⟨rfl, ⟨nd, rfl⟩⟩))
      go_meet
      case rel => exact ⟨_, (!t132), (by first | rfl | (simp; done) | (simp [*]; done)), H', ⟨by first | omega | exact Nat.le_refl _⟩, ⟨by repeat (first | (with_reducible first | exact HB.out | apply below_alloc | apply pw_below_drewN | apply below_drew1) | exact HB.out)⟩⟩
    · replace c5 := Bool.eq_false_iff.mpr c5
      subst c5
      have H1 : (laws_FnVtMeet.j0 k l0 l1 true) = some r := by rw [if_neg (show ¬ (false = true) by decide)] at H; exact H
      clear H
      have H := H1
      clear H1
      have H' := Aside0.mk H
      clear H
      go_wp2_with (first | ((with_reducible refine gate_callee (f := 8) rfl ?_); refine goesL_ (some 13) rfl rfl Try.func8 (by kernel_rfl) rfl #[.slice A0 l0.length c0] rfl (by (try simp only [List.map_toArray, List.map_cons, List.map_nil]); first | done | rfl | (simp only [List.length_drop, List.length_take]; rfl)) ?_; (with_reducible refine (laws_zzFits5.calls k _ _ l0 false _ ?side1 ?side2 A4.out).mono ?_); (case side1 => repeat (first | exact (Kd.C_below HR0.out HB.out) | (with_reducible refine Kd.C_alloc ?_ _) | (with_reducible refine Kd.C_drewN ?_ _) | (with_reducible refine Kd.C_drew ?_))); (case side2 => exact HC0.out); rintro e w' ⟨rfl, ⟨nd, rfl⟩⟩; refine ⟨_, rfl, ?_⟩))
      go_meet
      case rel => exact ⟨_, (true), (by first | rfl | (simp; done) | (simp [*]; done)), H', ⟨by first | omega | exact Nat.le_refl _⟩, ⟨by repeat (first | (with_reducible first | exact HB.out | apply below_alloc | apply pw_below_drewN | apply below_drew1) | exact HB.out)⟩⟩
  case rest =>
    clear HC3
    try clear c1
    try clear p2
    try clear c4
    try clear c5
    obtain ⟨kq, x19_2, rfl, HA, HJ2, HB⟩ := hcut
    cases kq with
    | zero => exact absurd HA.out (by simp [laws_FnVtMeet.j0])
    | succ kj2 =>
      have H := HA.out
      clear HA
      simp only [laws_FnVtMeet.j0] at H
      by_cases c7 : x19_2 = true
      · subst c7
        have H1 : (some true) = some r := by rw [if_pos rfl] at H; exact H
        clear H
        have H := H1
        clear H1
        obtain rfl := Option.some.inj H
        go_wp2
        go_ret
        exact ⟨by first | rfl | (simp [errW_none, errW_some] <;> rfl) | (simp [*, errW_none, errW_some] <;> rfl), by repeat (first | (with_reducible first | exact HB.out | apply below_alloc | apply pw_below_drewN | apply below_drew1) | exact HB.out)⟩
      · replace c7 := Bool.eq_false_iff.mpr c7
        subst c7
        have H1 : ((laws_vtSet.f kj2 l0).bind fun t133 => (if t133 = true then ((laws_vtSet.f kj2 l1).bind fun t134 => (laws_FnVtMeet.j1 kj2 l0 l1 (!t134))) else (laws_FnVtMeet.j1 kj2 l0 l1 true))) = some r := by rw [if_neg (show ¬ (false = true) by decide)] at H; exact H
        clear H
        have H := H1
        clear H1
        have HC8 := Aside0.mk H
        clear H
        go_upto_region 3 with (fail)
        go_cut [27] (fun v27 wc => ∃ (kq : Nat) (x27_7 : Bool), v27 = .bool x27_7 ∧ Aside0 (laws_FnVtMeet.j1 kq l0 l1 x27_7 = some r) ∧ Aside0 (kq ≤ kj2) ∧ Aside0 (Below w.heap.size w wc))
        case first =>
          have H := HC8.out
          clear HC8
          replace H := Option.bind_eq_some_iff.mp H
          obtain ⟨t133, A90, H⟩ := H
          replace H : (if t133 = true then ((laws_vtSet.f kj2 l1).bind fun t134 => (laws_FnVtMeet.j1 kj2 l0 l1 (!t134))) else (laws_FnVtMeet.j1 kj2 l0 l1 true)) = some r := H
          have A9 := Aside0.mk A90
          clear A90
          by_cases c10 : t133 = true
          · subst c10
            have H1 : ((laws_vtSet.f kj2 l1).bind fun t134 => (laws_FnVtMeet.j1 kj2 l0 l1 (!t134))) = some r := by rw [if_pos rfl] at H; exact H
            clear H
            have H := H1
            clear H1
            replace H := Option.bind_eq_some_iff.mp H
            obtain ⟨t134, A110, H⟩ := H
            replace H : (laws_FnVtMeet.j1 kj2 l0 l1 (!t134)) = some r := H
            have A11 := Aside0.mk A110
            clear A110
            have H' := Aside0.mk H
            clear H
            go_wp2_with (first | ((with_reducible refine gate_callee (f := 9) rfl ?_); refine goesL_ (some 21) rfl rfl Try.func9 (by kernel_rfl) rfl #[.slice A0 l0.length c0] rfl (by (try simp only [List.map_toArray, List.map_cons, List.map_nil]); first | done | rfl | (simp only [List.length_drop, List.length_take]; rfl)) ?_; (with_reducible refine (laws_vtSet.calls kj2 _ _ l0 true _ ?side1 ?side2 A9.out).mono ?_); (case side1 => repeat (first | exact (Kd.C_below HR0.out HB.out) | (with_reducible refine Kd.C_alloc ?_ _) | (with_reducible refine Kd.C_drewN ?_ _) | (with_reducible refine Kd.C_drew ?_))); (case side2 => exact HC0.out); rintro e w12 ⟨rfl, hb⟩; refine ⟨_, rfl, ?_⟩; have n0_ := Aside0.mk (below_step (by repeat (first | (with_reducible first | exact HB.out | apply below_alloc | apply pw_below_drewN | apply below_drew1) | exact HB.out)) hb); clear HB; have HB := n0_; clear n0_; (try clear hb); (try clear hb2); (try clear hk); (try clear hi)) | (go_at_call 9; (with_reducible refine (laws_vtSet.calls kj2 _ _ l1 t134 _ ?side1 ?side2 A11.out).mono ?_); (case side1 => repeat (first | exact (Kd.C_below HR1.out HB.out) | (with_reducible refine Kd.C_alloc ?_ _) | (with_reducible refine Kd.C_drewN ?_ _) | (with_reducible refine Kd.C_drew ?_))); (case side2 => exact HC1.out); rintro e w13 ⟨rfl, hb⟩; have n0_ := Aside0.mk (below_step (by repeat (first | (with_reducible first | exact HB.out | apply below_alloc | apply pw_below_drewN | apply below_drew1) | exact HB.out)) hb); clear HB; have HB := n0_; clear n0_; (try clear hb); (try clear hb2); (try clear hk); (try clear hi)))
            go_meet
            case rel => exact ⟨_, (!t134), (by first | rfl | (simp; done) | (simp [*]; done)), H', ⟨by have := HJ2.out; first | omega | exact Nat.le_refl _⟩, ⟨by repeat (first | (with_reducible first | exact HB.out | apply below_alloc | apply pw_below_drewN | apply below_drew1) | exact HB.out)⟩⟩
          · replace c10 := Bool.eq_false_iff.mpr c10
            subst c10
            have H1 : (laws_FnVtMeet.j1 kj2 l0 l1 true) = some r := by rw [if_neg (show ¬ (false = true) by decide)] at H; exact H
            clear H
            have H := H1
            clear H1
            have H' := Aside0.mk H
            clear H
            go_wp2_with (first | ((with_reducible refine gate_callee (f := 9) rfl ?_); refine goesL_ (some 21) rfl rfl Try.func9 (by kernel_rfl) rfl #[.slice A0 l0.length c0] rfl (by (try simp only [List.map_toArray, List.map_cons, List.map_nil]); first | done | rfl | (simp only [List.length_drop, List.length_take]; rfl)) ?_; (with_reducible refine (laws_vtSet.calls kj2 _ _ l0 false _ ?side1 ?side2 A9.out).mono ?_); (case side1 => repeat (first | exact (Kd.C_below HR0.out HB.out) | (with_reducible refine Kd.C_alloc ?_ _) | (with_reducible refine Kd.C_drewN ?_ _) | (with_reducible refine Kd.C_drew ?_))); (case side2 => exact HC0.out); rintro e w14 ⟨rfl, hb⟩; refine ⟨_, rfl, ?_⟩; have n0_ := Aside0.mk (below_step (by repeat (first | (with_reducible first | exact HB.out | apply below_alloc | apply pw_below_drewN | apply below_drew1) | exact HB.out)) hb); clear HB; have HB := n0_; clear n0_; (try clear hb); (try clear hb2); (try clear hk); (try clear hi)))
            go_meet
            case rel => exact ⟨_, (true), (by first | rfl | (simp; done) | (simp [*]; done)), H', ⟨by have := HJ2.out; first | omega | exact Nat.le_refl _⟩, ⟨by repeat (first | (with_reducible first | exact HB.out | apply below_alloc | apply pw_below_drewN | apply below_drew1) | exact HB.out)⟩⟩
        case rest =>
          clear HC8
          try clear c1
          try clear p2
          try clear c4
          try clear c5
          try clear c7
          try clear c8
          try clear c9
          try clear c10
          try clear p2
          obtain ⟨kq, x27_7, rfl, HA, HJ7, HB⟩ := hcut
          cases kq with
          | zero => exact absurd HA.out (by simp [laws_FnVtMeet.j1])
          | succ kj7 =>
            have H := HA.out
            clear HA
            simp only [laws_FnVtMeet.j1] at H
            by_cases c15 : x27_7 = true
            · subst c15
              have H1 : (some true) = some r := by rw [if_pos rfl] at H; exact H
              clear H
              have H := H1
              clear H1
              obtain rfl := Option.some.inj H
              go_wp2
              go_ret
              exact ⟨by first | rfl | (simp [errW_none, errW_some] <;> rfl) | (simp [*, errW_none, errW_some] <;> rfl), by repeat (first | (with_reducible first | exact HB.out | apply below_alloc | apply pw_below_drewN | apply below_drew1) | exact HB.out)⟩
            · replace c15 := Bool.eq_false_iff.mpr c15
              subst c15
              have H1 : ((impl_VtMeet.f l0 l1).bind fun bt135 => (laws_FnVtMeet.l0 kj7 l0 l1 bt135.1 bt135.2 ([] : List ByteArray) l0 (l0.length : Int) 0)) = some r := by rw [if_neg (show ¬ (false = true) by decide)] at H; exact H
              clear H
              have H := H1
              clear H1
              replace H := Option.bind_eq_some_iff.mp H
              obtain ⟨⟨t135, t136⟩, A160, H⟩ := H
              replace H : (laws_FnVtMeet.l0 kj7 l0 l1 t135 t136 ([] : List ByteArray) l0 (l0.length : Int) 0) = some r := H
              have A16 := Aside0.mk A160
              clear A160
              have H' := Aside0.mk H
              clear H
              go_wp2_with (first | ((with_reducible refine gate_callee (f := 10) rfl ?_); refine goesL_ (some 31) rfl rfl Try.func10 (by kernel_rfl) rfl #[.slice A0 l0.length c0, .slice A1 l1.length c1] rfl (by (try simp only [List.map_toArray, List.map_cons, List.map_nil]); first | done | rfl | (simp only [List.length_drop, List.length_take]; rfl)) ?_; (with_reducible refine (impl_VtMeet.calls _ _ l0 _ _ l1 t135 t136 _ ?side1 ?side2 ?side3 ?side4 A16.out).mono ?_); (case side1 => repeat (first | exact (Kd.C_below HR0.out HB.out) | (with_reducible refine Kd.C_alloc ?_ _) | (with_reducible refine Kd.C_drewN ?_ _) | (with_reducible refine Kd.C_drew ?_))); (case side2 => exact HC0.out); (case side3 => repeat (first | exact (Kd.C_below HR1.out HB.out) | (with_reducible refine Kd.C_alloc ?_ _) | (with_reducible refine Kd.C_drewN ?_ _) | (with_reducible refine Kd.C_drew ?_))); (case side4 => exact HC1.out); rintro e w17 ⟨v137, v139, rfl, ho0, ho1, hb⟩; refine ⟨_, rfl, ?_⟩; have n0_ := Aside0.mk (Kd.R_lower ho0 (below_size (by repeat (first | (with_reducible first | exact HB.out | apply below_alloc | apply pw_below_drewN | apply below_drew1) | exact HB.out)))); have n1_ := Aside0.mk (Kd.R_lower ho1 (below_size (by repeat (first | (with_reducible first | exact HB.out | apply below_alloc | apply pw_below_drewN | apply below_drew1) | exact HB.out)))); have n2_ := Aside0.mk (below_step (by repeat (first | (with_reducible first | exact HB.out | apply below_alloc | apply pw_below_drewN | apply below_drew1) | exact HB.out)) hb); clear HB; have HO138 := n0_; have HO140 := n1_; have HB := n2_; clear n0_ n1_ n2_; (try clear hb); (try clear hb2); (try clear hk); (try clear hi); (try clear ho0); (try clear ho1)))
              go_loopg [7, 36] kj7 (fun kq v7 v36 w' => ∃ (x7_3 : List ByteArray) (x36_3 : Int), v36 = .int .i64 x36_3 ∧ Aside0 (laws_FnVtMeet.l0 kq l0 l1 t135 t136 x7_3 l0 (l0.length : Int) x36_3 = some r) ∧ Aside0 (kq ≤ kj7) ∧ Aside0 (Kd.R Kd.string 9 w' w.heap.size (fun k_ => some k_ ≠ (v139 : Value).ownBlock ∧ some k_ ≠ (v7 : Value).ownBlock) v137 t135) ∧ Aside0 (Kd.R Kd.string 9 w' w.heap.size (fun k_ => some k_ ≠ (v137 : Value).ownBlock ∧ some k_ ≠ (v7 : Value).ownBlock) v139 t136) ∧ Aside0 (Kd.R Kd.string 9 w' w.heap.size (fun k_ => some k_ ≠ (v137 : Value).ownBlock ∧ some k_ ≠ (v139 : Value).ownBlock) v7 x7_3) ∧ Aside0 (Below w.heap.size w w'))
              case atStart => exact ⟨(([] : List ByteArray)), (0), (by first | rfl | (simp; done) | (simp [*]; done)), H', ⟨Nat.le_refl _⟩, ⟨by (with_reducible repeat (first | apply Kd.R_alloc | apply Kd.R_drewN | apply Kd.R_drew)); exact Kd.R_mono HO138.out (fun _ hk => ⟨hk, (by simp [Value.ownBlock])⟩)⟩, ⟨by (with_reducible repeat (first | apply Kd.R_alloc | apply Kd.R_drewN | apply Kd.R_drew)); exact Kd.R_mono HO140.out (fun _ hk => ⟨hk, (by simp [Value.ownBlock])⟩)⟩, ⟨by first | exact Kd.R_nil _ _ _ _ _ | exact Kd.N_nil _ _ _ _ _ | exact Kd.V_nil _ _ _ _ _ | exact Kd.Q_nil _ _ _ _ _ | exact Kd.S_nil _ _ _ _ _⟩, ⟨by repeat (first | (with_reducible first | exact HB.out | apply below_alloc | apply pw_below_drewN | apply below_drew1) | exact HB.out)⟩⟩
              case round =>
                clear H'
                try clear c1
                try clear p2
                try clear c4
                try clear c5
                try clear c7
                try clear c8
                try clear c9
                try clear c10
                try clear c15
                try clear p2
                obtain ⟨x7_3, x36_3, rfl, HA, HK3, HO_5, HO_6, HO_7, HB⟩ := hrel
                cases gk with
                | zero => exact absurd HA.out (by simp [laws_FnVtMeet.l0])
                | succ k3 =>
                  have H := HA.out
                  clear HA
                  simp only [laws_FnVtMeet.l0] at H
                  by_cases c18 : x36_3 < (l0.length : Int)
                  · rw [if_pos c18] at H
                    have c18b0 : decide (x36_3 < (l0.length : Int)) = true := decide_eq_true c18
                    clear c18
                    by_cases c19 : 0 ≤ x36_3
                    · rw [if_pos c19] at H
                      have c19b0 : decide (0 ≤ x36_3) = true := decide_eq_true c19
                      clear c19
                      by_cases c20 : x36_3 < (l0.length : Int)
                      · rw [if_pos c20] at H
                        have c20b0 : decide (x36_3 < (l0.length : Int)) = true := decide_eq_true c20
                        clear c20
                        by_cases c21 : 1 + (rdOf ByteArray.empty l0 x36_3).size ≤ 9223372036854775807
                        · rw [if_pos c21] at H
                          have c21b0 := eq_true c21
                          have c21b1 : decide (1 + (rdOf ByteArray.empty l0 x36_3).size ≤ 9223372036854775807) = true := decide_eq_true c21
                          try have c21b2 : (9223372036854775807 < 1 + (rdOf ByteArray.empty l0 x36_3).size) = False := eq_false (Nat.not_lt.2 c21)
                          try (have c21b3 := c21b2; simp only [ByteArray.size_append] at c21b3)
                          try (have c21b4 := c21b3; simp only [show ∀ c : UInt8, (ByteArray.mk #[c]).size = 1 from fun _ => rfl] at c21b4)
                          by_cases c22 : x7_3.length < 8796093022208
                          · rw [if_pos c22] at H
                            have LMc22 := Aside0.mk c22
                            clear c22
                            obtain ⟨y142, hy142⟩ : ∃ y_ : List ByteArray, y_ = (x7_3 ++ [(⟨#[97]⟩ : ByteArray) ++ (rdOf ByteArray.empty l0 x36_3)]) := ⟨_, rfl⟩
                            replace H : (laws_FnVtMeet.l0 k3 l0 l1 t135 t136 y142 l0 (l0.length : Int) (wrap64 (x36_3 + 1))) = some r := by first | (rw [hy142]; with_reducible exact H) | (have H2_ := (Option.bind_some _ _).symm.trans H; rw [hy142]; with_reducible exact H2_) | (have H2_ := (Option.bind_some _ _).symm.trans H; with_reducible exact H2_) | with_reducible exact H | (rw [hy142]; exact H) | exact H
                            have Ny142 := Aside0.mk hy142
                            clear hy142
                            have H' := Aside0.mk H
                            clear H
                            have p141 : 0 ≤ (x36_3 : Int) := of_decide_eq_true (by first | (with_reducible assumption) | assumption)
                            have q141 : x36_3 < (l0.length : Int) := of_decide_eq_true (by first | (with_reducible assumption) | assumption)
                            obtain ⟨ad141, e141, hx141_0⟩ := Kd.at_string HR0.out x36_3 p141 q141
                            cases e141
                            replace hx141_0 := (HB.out.cell (World.block_lt_of_cell? w _ hx141_0)).trans hx141_0
                            replace p141 := eq_true p141
                            replace q141 := eq_true q141
                            go_wp2_with (first | ((with_reducible refine gate_builtin (b := .append) (xs := #[.tmp 40, .tmp 43]) rfl ?_); (try (refine gate_guard (by rfl) ?_; dsimp only)); at_builtin; refine Kd.R_append Kd.string (w0 := w) w.heap.size rfl (.tmp 40) (.tmp 43) 25 9 (.string ⟨#[]⟩) 16 rfl Try.underlying25 info9 rfl (by decide) (by omega) u7 x7_3 ((⟨#[97]⟩ : ByteArray) ++ (rdOf ByteArray.empty l0 x36_3)) [.string ((⟨#[97]⟩ : ByteArray) ++ (rdOf ByteArray.empty l0 x36_3))] (fun k_ => some k_ ≠ (v137 : Value).ownBlock ∧ some k_ ≠ (v139 : Value).ownBlock) (fun _ => False) rfl rfl ?aP (fun _ hk => hk.elim) ?aF ?aO ?aB ?aS ?aL ?_; (case aP => exact rfl); (case aB => exact (by repeat (first | (with_reducible first | exact HB.out | apply below_alloc | apply pw_below_drewN | apply below_drew1) | exact HB.out))); (case aF => exact (fun k_ hk => ⟨Kd.fresh' (Kd.R_lt (by (with_reducible repeat (first | apply Kd.R_alloc | apply Kd.R_drewN | apply Kd.R_drew)); exact HO_5.out)) k_ hk, Kd.fresh' (Kd.R_lt (by (with_reducible repeat (first | apply Kd.R_alloc | apply Kd.R_drewN | apply Kd.R_drew)); exact HO_6.out)) k_ hk⟩)); (case aO => exact (by (with_reducible repeat (first | apply Kd.R_alloc | apply Kd.R_drewN | apply Kd.R_drew)); exact HO_7.out)); (case aS => exact (below_size (by repeat (first | (with_reducible first | exact HB.out | apply below_alloc | apply pw_below_drewN | apply below_drew1) | exact HB.out)))); (case aL => have := LMc22.out; omega); intro v143 w23 ho hb hg hat; rw [← Ny142.out] at ho; have n0_ := Aside0.mk (Kd.R_after (ok := (fun k_ => some k_ ≠ (v139 : Value).ownBlock)) (by (with_reducible repeat (first | apply Kd.R_alloc | apply Kd.R_drewN | apply Kd.R_drew)); exact HO_5.out) hg hat); have n1_ := Aside0.mk (Kd.R_after (ok := (fun k_ => some k_ ≠ (v137 : Value).ownBlock)) (by (with_reducible repeat (first | apply Kd.R_alloc | apply Kd.R_drewN | apply Kd.R_drew)); exact HO_6.out) hg hat); have n2_ := Aside0.mk (hb); have n3_ := Aside0.mk (ho); clear HO_5; clear HO_6; clear HB; clear HO_7; have HO_5 := n0_; have HO_6 := n1_; have HB := n2_; have HO144 := n3_; clear n0_ n1_ n2_ n3_; clear ho hb hg hat))
                            go_roundg k3
                            case measure => have := HJ2.out; have := HJ7.out; have := HK3.out; omega
                            case rel => exact ⟨(y142), (wrap64 (x36_3 + 1)), (by first | rfl | (simp; done) | (simp [*]; done)), H', ⟨by have := HJ2.out; have := HJ7.out; have := HK3.out; omega⟩, ⟨by (with_reducible repeat (first | apply Kd.R_alloc | apply Kd.R_drewN | apply Kd.R_drew)); exact HO_5.out⟩, ⟨by (with_reducible repeat (first | apply Kd.R_alloc | apply Kd.R_drewN | apply Kd.R_drew)); exact HO_6.out⟩, ⟨by (with_reducible repeat (first | apply Kd.R_alloc | apply Kd.R_drewN | apply Kd.R_drew)); exact HO144.out⟩, ⟨by repeat (first | (with_reducible first | exact HB.out | apply below_alloc | apply pw_below_drewN | apply below_drew1) | exact HB.out)⟩⟩
                          · rw [if_neg c22] at H
                            exact absurd H (by simp)
                        · rw [if_neg c21] at H
                          exact absurd H (by simp)
                      · rw [if_neg c20] at H
                        exact absurd H (by simp)
                    · rw [if_neg c19] at H
                      exact absurd H (by simp)
                  · rw [if_neg c18] at H
                    have c18b0 : decide (x36_3 < (l0.length : Int)) = false := decide_eq_false c18
                    clear c18
                    obtain ⟨y145, hy145⟩ : ∃ y_ : List ByteArray, y_ = (([(⟨#[105]⟩ : ByteArray)] : List ByteArray)) := ⟨_, rfl⟩
                    replace H : ((impl_VtMeet.f y145 (([(⟨#[105]⟩ : ByteArray)] : List ByteArray))).bind fun bt151 => ((spec_Meet.f k3 l0 l1).bind fun t157 => ((laws_vtSameList.f k3 t135 t157).bind fun t160 => (if t160 = true then ((laws_vtSameList.f k3 t136 x7_3).bind fun t161 => (if t161 = true then ((laws_vtSameList.f k3 bt151.1 (([(⟨#[105]⟩ : ByteArray)] : List ByteArray))).bind fun t165 => (some t165)) else (some false))) else (some false))))) = some r := by first | (rw [hy145]; with_reducible exact H) | (have H2_ := (Option.bind_some _ _).symm.trans H; rw [hy145]; with_reducible exact H2_) | (have H2_ := (Option.bind_some _ _).symm.trans H; with_reducible exact H2_) | with_reducible exact H | (rw [hy145]; exact H) | exact H
                    have Ny145 := Aside0.mk hy145
                    clear hy145
                    obtain ⟨y148, hy148⟩ : ∃ y_ : List ByteArray, y_ = (([(⟨#[105]⟩ : ByteArray)] : List ByteArray)) := ⟨_, rfl⟩
                    replace H : ((impl_VtMeet.f y145 y148).bind fun bt151 => ((spec_Meet.f k3 l0 l1).bind fun t157 => ((laws_vtSameList.f k3 t135 t157).bind fun t160 => (if t160 = true then ((laws_vtSameList.f k3 t136 x7_3).bind fun t161 => (if t161 = true then ((laws_vtSameList.f k3 bt151.1 (([(⟨#[105]⟩ : ByteArray)] : List ByteArray))).bind fun t165 => (some t165)) else (some false))) else (some false))))) = some r := by first | (rw [hy148]; with_reducible exact H) | (have H2_ := (Option.bind_some _ _).symm.trans H; rw [hy148]; with_reducible exact H2_) | (have H2_ := (Option.bind_some _ _).symm.trans H; with_reducible exact H2_) | with_reducible exact H | (rw [hy148]; exact H) | exact H
                    have Ny148 := Aside0.mk hy148
                    clear hy148
                    replace H := Option.bind_eq_some_iff.mp H
                    obtain ⟨⟨t151, t152⟩, A240, H⟩ := H
                    replace H : ((spec_Meet.f k3 l0 l1).bind fun t157 => ((laws_vtSameList.f k3 t135 t157).bind fun t160 => (if t160 = true then ((laws_vtSameList.f k3 t136 x7_3).bind fun t161 => (if t161 = true then ((laws_vtSameList.f k3 t151 (([(⟨#[105]⟩ : ByteArray)] : List ByteArray))).bind fun t165 => (some t165)) else (some false))) else (some false)))) = some r := H
                    have A24 := Aside0.mk A240
                    clear A240
                    replace H := Option.bind_eq_some_iff.mp H
                    obtain ⟨t157, A250, H⟩ := H
                    replace H : ((laws_vtSameList.f k3 t135 t157).bind fun t160 => (if t160 = true then ((laws_vtSameList.f k3 t136 x7_3).bind fun t161 => (if t161 = true then ((laws_vtSameList.f k3 t151 (([(⟨#[105]⟩ : ByteArray)] : List ByteArray))).bind fun t165 => (some t165)) else (some false))) else (some false))) = some r := H
                    have A25 := Aside0.mk A250
                    clear A250
                    replace H := Option.bind_eq_some_iff.mp H
                    obtain ⟨t160, A260, H⟩ := H
                    replace H : (if t160 = true then ((laws_vtSameList.f k3 t136 x7_3).bind fun t161 => (if t161 = true then ((laws_vtSameList.f k3 t151 (([(⟨#[105]⟩ : ByteArray)] : List ByteArray))).bind fun t165 => (some t165)) else (some false))) else (some false)) = some r := H
                    have A26 := Aside0.mk A260
                    clear A260
                    by_cases c27 : t160 = true
                    · subst c27
                      have H1 : ((laws_vtSameList.f k3 t136 x7_3).bind fun t161 => (if t161 = true then ((laws_vtSameList.f k3 t151 (([(⟨#[105]⟩ : ByteArray)] : List ByteArray))).bind fun t165 => (some t165)) else (some false))) = some r := by rw [if_pos rfl] at H; exact H
                      clear H
                      have H := H1
                      clear H1
                      replace H := Option.bind_eq_some_iff.mp H
                      obtain ⟨t161, A280, H⟩ := H
                      replace H : (if t161 = true then ((laws_vtSameList.f k3 t151 (([(⟨#[105]⟩ : ByteArray)] : List ByteArray))).bind fun t165 => (some t165)) else (some false)) = some r := H
                      have A28 := Aside0.mk A280
                      clear A280
                      by_cases c29 : t161 = true
                      · subst c29
                        have H1 : ((laws_vtSameList.f k3 t151 (([(⟨#[105]⟩ : ByteArray)] : List ByteArray))).bind fun t165 => (some t165)) = some r := by rw [if_pos rfl] at H; exact H
                        clear H
                        have H := H1
                        clear H1
                        obtain ⟨y162, hy162⟩ : ∃ y_ : List ByteArray, y_ = (([(⟨#[105]⟩ : ByteArray)] : List ByteArray)) := ⟨_, rfl⟩
                        replace H : ((laws_vtSameList.f k3 t151 y162).bind fun t165 => (some t165)) = some r := by first | (rw [hy162]; with_reducible exact H) | (have H2_ := (Option.bind_some _ _).symm.trans H; rw [hy162]; with_reducible exact H2_) | (have H2_ := (Option.bind_some _ _).symm.trans H; with_reducible exact H2_) | with_reducible exact H | (rw [hy162]; exact H) | exact H
                        have Ny162 := Aside0.mk hy162
                        clear hy162
                        replace H := Option.bind_eq_some_iff.mp H
                        obtain ⟨t165, A300, H⟩ := H
                        replace H : (some t165) = some r := H
                        have A30 := Aside0.mk A300
                        clear A300
                        obtain rfl := Option.some.inj H
                        go_wp2_with (first | ((with_reducible refine gate_dst (N := 47) rfl ?_); (try (refine gate_guard (by rfl) ?_; dsimp only)); refine Kd.R_lit Kd.string _ 9 ?hg (N := 47) ?hd (xs := ([(⟨#[105]⟩ : ByteArray)] : List ByteArray)) (inner := [.string (⟨#[105]⟩ : ByteArray)]) (ok := fun _ => True) (okp := fun _ => True) ?hr ?hp (fun _ hk => hk) trivial (Below.refl _ _) (Nat.le_refl _) (by simp) ?_; (case hd => rfl); (case hg => rfl); (case hr => first | (go_simp; done) | (go_simp; rfl)); (case hp => exact (Reps.one (show Kd.M Kd.string _ _ _ (⟨#[105]⟩ : ByteArray) [.string (⟨#[105]⟩ : ByteArray)] from rfl) (Reps.none _ _))); intro v146 w31 ho32 hb hg_ hnew_; clear hg_ hnew_; (first | rw [← Ny145.out] at ho32 | (simp only [Int.reduceToNat] at ho32; rw [← Ny145.out] at ho32)); have n0_ := Aside0.mk (Kd.R_elder' (by (with_reducible repeat (first | apply Kd.R_alloc | apply Kd.R_drewN | apply Kd.R_drew)); exact HO_5.out) (Kd.R_base ho32) hb); have n1_ := Aside0.mk (Kd.R_elder' (by (with_reducible repeat (first | apply Kd.R_alloc | apply Kd.R_drewN | apply Kd.R_drew)); exact HO_6.out) (Kd.R_base ho32) hb); have n2_ := Aside0.mk (Kd.R_elder' (by (with_reducible repeat (first | apply Kd.R_alloc | apply Kd.R_drewN | apply Kd.R_drew)); exact HO_7.out) (Kd.R_base ho32) hb); have n3_ := Aside0.mk (Kd.R_lower (Kd.R_new' (Kd.R_new' (Kd.R_new' ho32 (Kd.R_lt (by (with_reducible repeat (first | apply Kd.R_alloc | apply Kd.R_drewN | apply Kd.R_drew)); exact HO_5.out))) (Kd.R_lt (by (with_reducible repeat (first | apply Kd.R_alloc | apply Kd.R_drewN | apply Kd.R_drew)); exact HO_6.out))) (Kd.R_lt (by (with_reducible repeat (first | apply Kd.R_alloc | apply Kd.R_drewN | apply Kd.R_drew)); exact HO_7.out))) (below_size (by repeat (first | (with_reducible first | exact HB.out | apply below_alloc | apply pw_below_drewN | apply below_drew1) | exact HB.out)))); have n4_ := Aside0.mk (below_step (by repeat (first | (with_reducible first | exact HB.out | apply below_alloc | apply pw_below_drewN | apply below_drew1) | exact HB.out)) hb); clear HO_5; clear HO_6; clear HO_7; clear HB; have HO_5 := n0_; have HO_6 := n1_; have HO_7 := n2_; have HO147 := n3_; have HB := n4_; clear n0_ n1_ n2_ n3_ n4_; clear hb ho32) | ((with_reducible refine gate_dst (N := 48) rfl ?_); (try (refine gate_guard (by rfl) ?_; dsimp only)); refine Kd.R_lit Kd.string _ 9 ?hg (N := 48) ?hd (xs := ([(⟨#[105]⟩ : ByteArray)] : List ByteArray)) (inner := [.string (⟨#[105]⟩ : ByteArray)]) (ok := fun _ => True) (okp := fun _ => True) ?hr ?hp (fun _ hk => hk) trivial (Below.refl _ _) (Nat.le_refl _) (by simp) ?_; (case hd => rfl); (case hg => rfl); (case hr => first | (go_simp; done) | (go_simp; rfl)); (case hp => exact (Reps.one (show Kd.M Kd.string _ _ _ (⟨#[105]⟩ : ByteArray) [.string (⟨#[105]⟩ : ByteArray)] from rfl) (Reps.none _ _))); intro v149 w33 ho34 hb hg_ hnew_; clear hg_ hnew_; (first | rw [← Ny148.out] at ho34 | (simp only [Int.reduceToNat] at ho34; rw [← Ny148.out] at ho34)); have n0_ := Aside0.mk (Kd.R_elder' (by (with_reducible repeat (first | apply Kd.R_alloc | apply Kd.R_drewN | apply Kd.R_drew)); exact HO_5.out) (Kd.R_base ho34) hb); have n1_ := Aside0.mk (Kd.R_elder' (by (with_reducible repeat (first | apply Kd.R_alloc | apply Kd.R_drewN | apply Kd.R_drew)); exact HO_6.out) (Kd.R_base ho34) hb); have n2_ := Aside0.mk (Kd.R_elder' (by (with_reducible repeat (first | apply Kd.R_alloc | apply Kd.R_drewN | apply Kd.R_drew)); exact HO_7.out) (Kd.R_base ho34) hb); have n3_ := Aside0.mk (Kd.R_elder' (by (with_reducible repeat (first | apply Kd.R_alloc | apply Kd.R_drewN | apply Kd.R_drew)); exact HO147.out) (Kd.R_base ho34) hb); have n4_ := Aside0.mk (Kd.R_lower (Kd.R_new' (Kd.R_new' (Kd.R_new' (Kd.R_new' ho34 (Kd.R_lt (by (with_reducible repeat (first | apply Kd.R_alloc | apply Kd.R_drewN | apply Kd.R_drew)); exact HO_5.out))) (Kd.R_lt (by (with_reducible repeat (first | apply Kd.R_alloc | apply Kd.R_drewN | apply Kd.R_drew)); exact HO_6.out))) (Kd.R_lt (by (with_reducible repeat (first | apply Kd.R_alloc | apply Kd.R_drewN | apply Kd.R_drew)); exact HO_7.out))) (Kd.R_lt (by (with_reducible repeat (first | apply Kd.R_alloc | apply Kd.R_drewN | apply Kd.R_drew)); exact HO147.out))) (below_size (by repeat (first | (with_reducible first | exact HB.out | apply below_alloc | apply pw_below_drewN | apply below_drew1) | exact HB.out)))); have n5_ := Aside0.mk (below_step (by repeat (first | (with_reducible first | exact HB.out | apply below_alloc | apply pw_below_drewN | apply below_drew1) | exact HB.out)) hb); clear HO_5; clear HO_6; clear HO_7; clear HO147; clear HB; have HO_5 := n0_; have HO_6 := n1_; have HO_7 := n2_; have HO147 := n3_; have HO150 := n4_; have HB := n5_; clear n0_ n1_ n2_ n3_ n4_ n5_; clear hb ho34; obtain ⟨Ao35, co35, eo35⟩ := Kd.R_slice HO147.out; subst eo35; obtain ⟨Ao36, co36, eo36⟩ := Kd.R_slice HO150.out; subst eo36) | ((with_reducible refine gate_callee (f := 10) rfl ?_); refine goesL_ (some 49) rfl rfl Try.func10 (by kernel_rfl) rfl #[.slice Ao35 y145.length co35, .slice Ao36 y148.length co36] rfl (by (try simp only [List.map_toArray, List.map_cons, List.map_nil]); first | done | rfl | (simp only [List.length_drop, List.length_take]; rfl)) ?_; (with_reducible refine (impl_VtMeet.calls _ _ y145 _ _ y148 t151 t152 _ ?side1 ?side2 ?side3 ?side4 A24.out).mono ?_); (case side1 => repeat (first | exact (Kd.R_reads' HO147.out).2.2 | (with_reducible refine Kd.C_alloc ?_ _) | (with_reducible refine Kd.C_drewN ?_ _) | (with_reducible refine Kd.C_drew ?_))); (case side2 => exact (Kd.R_reads' HO147.out).2.1); (case side3 => repeat (first | exact (Kd.R_reads' HO150.out).2.2 | (with_reducible refine Kd.C_alloc ?_ _) | (with_reducible refine Kd.C_drewN ?_ _) | (with_reducible refine Kd.C_drew ?_))); (case side4 => exact (Kd.R_reads' HO150.out).2.1); rintro e w37 ⟨v153, v155, rfl, ho0, ho1, hb⟩; refine ⟨_, rfl, ?_⟩; have n0_ := Aside0.mk (Kd.R_mono (Kd.R_told (Kd.R_told (Kd.R_old (by (with_reducible repeat (first | apply Kd.R_alloc | apply Kd.R_drewN | apply Kd.R_drew)); exact HO_5.out) hb) (Kd.R_base ho0)) (Kd.R_base ho1)) (fun _ h_ => h_.1)); have n1_ := Aside0.mk (Kd.R_mono (Kd.R_told (Kd.R_told (Kd.R_old (by (with_reducible repeat (first | apply Kd.R_alloc | apply Kd.R_drewN | apply Kd.R_drew)); exact HO_6.out) hb) (Kd.R_base ho0)) (Kd.R_base ho1)) (fun _ h_ => h_.1)); have n2_ := Aside0.mk (Kd.R_mono (Kd.R_told (Kd.R_told (Kd.R_old (by (with_reducible repeat (first | apply Kd.R_alloc | apply Kd.R_drewN | apply Kd.R_drew)); exact HO_7.out) hb) (Kd.R_base ho0)) (Kd.R_base ho1)) (fun _ h_ => h_.1)); have n3_ := Aside0.mk (Kd.R_mono (Kd.R_told (Kd.R_told (Kd.R_old (by (with_reducible repeat (first | apply Kd.R_alloc | apply Kd.R_drewN | apply Kd.R_drew)); exact HO147.out) hb) (Kd.R_base ho0)) (Kd.R_base ho1)) (fun _ h_ => h_.1)); have n4_ := Aside0.mk (Kd.R_mono (Kd.R_told (Kd.R_told (Kd.R_old (by (with_reducible repeat (first | apply Kd.R_alloc | apply Kd.R_drewN | apply Kd.R_drew)); exact HO150.out) hb) (Kd.R_base ho0)) (Kd.R_base ho1)) (fun _ h_ => h_.1)); have n5_ := Aside0.mk (Kd.R_lower (Kd.R_new' (Kd.R_new' (Kd.R_new' (Kd.R_new' (Kd.R_new' ho0 (Kd.R_lt (by (with_reducible repeat (first | apply Kd.R_alloc | apply Kd.R_drewN | apply Kd.R_drew)); exact HO_5.out))) (Kd.R_lt (by (with_reducible repeat (first | apply Kd.R_alloc | apply Kd.R_drewN | apply Kd.R_drew)); exact HO_6.out))) (Kd.R_lt (by (with_reducible repeat (first | apply Kd.R_alloc | apply Kd.R_drewN | apply Kd.R_drew)); exact HO_7.out))) (Kd.R_lt (by (with_reducible repeat (first | apply Kd.R_alloc | apply Kd.R_drewN | apply Kd.R_drew)); exact HO147.out))) (Kd.R_lt (by (with_reducible repeat (first | apply Kd.R_alloc | apply Kd.R_drewN | apply Kd.R_drew)); exact HO150.out))) (below_size (by repeat (first | (with_reducible first | exact HB.out | apply below_alloc | apply pw_below_drewN | apply below_drew1) | exact HB.out)))); have n6_ := Aside0.mk (Kd.R_lower (Kd.R_new' (Kd.R_new' (Kd.R_new' (Kd.R_new' (Kd.R_new' ho1 (Kd.R_lt (by (with_reducible repeat (first | apply Kd.R_alloc | apply Kd.R_drewN | apply Kd.R_drew)); exact HO_5.out))) (Kd.R_lt (by (with_reducible repeat (first | apply Kd.R_alloc | apply Kd.R_drewN | apply Kd.R_drew)); exact HO_6.out))) (Kd.R_lt (by (with_reducible repeat (first | apply Kd.R_alloc | apply Kd.R_drewN | apply Kd.R_drew)); exact HO_7.out))) (Kd.R_lt (by (with_reducible repeat (first | apply Kd.R_alloc | apply Kd.R_drewN | apply Kd.R_drew)); exact HO147.out))) (Kd.R_lt (by (with_reducible repeat (first | apply Kd.R_alloc | apply Kd.R_drewN | apply Kd.R_drew)); exact HO150.out))) (below_size (by repeat (first | (with_reducible first | exact HB.out | apply below_alloc | apply pw_below_drewN | apply below_drew1) | exact HB.out)))); have n7_ := Aside0.mk (below_step (by repeat (first | (with_reducible first | exact HB.out | apply below_alloc | apply pw_below_drewN | apply below_drew1) | exact HB.out)) hb); clear HO_5; clear HO_6; clear HO_7; clear HO147; clear HO150; clear HB; have HO_5 := n0_; have HO_6 := n1_; have HO_7 := n2_; have HO147 := n3_; have HO150 := n4_; have HO154 := n5_; have HO156 := n6_; have HB := n7_; clear n0_ n1_ n2_ n3_ n4_ n5_ n6_ n7_; (try clear hb); (try clear hb2); (try clear hk); (try clear hi); (try clear ho0); (try clear ho1)) | ((with_reducible refine gate_callee (f := 12) rfl ?_); refine goesL_ (some 55) rfl rfl Try.func12 (by kernel_rfl) rfl #[.slice A0 l0.length c0, .slice A1 l1.length c1] rfl (by (try simp only [List.map_toArray, List.map_cons, List.map_nil]); first | done | rfl | (simp only [List.length_drop, List.length_take]; rfl)) ?_; (with_reducible refine (spec_Meet.calls k3 _ _ l0 _ _ l1 t157 _ ?side1 ?side2 ?side3 ?side4 A25.out).mono ?_); (case side1 => repeat (first | exact (Kd.C_below HR0.out HB.out) | (with_reducible refine Kd.C_alloc ?_ _) | (with_reducible refine Kd.C_drewN ?_ _) | (with_reducible refine Kd.C_drew ?_))); (case side2 => exact HC0.out); (case side3 => repeat (first | exact (Kd.C_below HR1.out HB.out) | (with_reducible refine Kd.C_alloc ?_ _) | (with_reducible refine Kd.C_drewN ?_ _) | (with_reducible refine Kd.C_drew ?_))); (case side4 => exact HC1.out); rintro e w38 ⟨v158, rfl, ho0, hb⟩; refine ⟨_, rfl, ?_⟩; have n0_ := Aside0.mk (Kd.R_elder' (by (with_reducible repeat (first | apply Kd.R_alloc | apply Kd.R_drewN | apply Kd.R_drew)); exact HO_5.out) (Kd.R_base ho0) hb); have n1_ := Aside0.mk (Kd.R_elder' (by (with_reducible repeat (first | apply Kd.R_alloc | apply Kd.R_drewN | apply Kd.R_drew)); exact HO_6.out) (Kd.R_base ho0) hb); have n2_ := Aside0.mk (Kd.R_elder' (by (with_reducible repeat (first | apply Kd.R_alloc | apply Kd.R_drewN | apply Kd.R_drew)); exact HO_7.out) (Kd.R_base ho0) hb); have n3_ := Aside0.mk (Kd.R_elder' (by (with_reducible repeat (first | apply Kd.R_alloc | apply Kd.R_drewN | apply Kd.R_drew)); exact HO147.out) (Kd.R_base ho0) hb); have n4_ := Aside0.mk (Kd.R_elder' (by (with_reducible repeat (first | apply Kd.R_alloc | apply Kd.R_drewN | apply Kd.R_drew)); exact HO150.out) (Kd.R_base ho0) hb); have n5_ := Aside0.mk (Kd.R_elder' (by (with_reducible repeat (first | apply Kd.R_alloc | apply Kd.R_drewN | apply Kd.R_drew)); exact HO154.out) (Kd.R_base ho0) hb); have n6_ := Aside0.mk (Kd.R_elder' (by (with_reducible repeat (first | apply Kd.R_alloc | apply Kd.R_drewN | apply Kd.R_drew)); exact HO156.out) (Kd.R_base ho0) hb); have n7_ := Aside0.mk (Kd.R_lower (Kd.R_new' (Kd.R_new' (Kd.R_new' (Kd.R_new' (Kd.R_new' (Kd.R_new' (Kd.R_new' ho0 (Kd.R_lt (by (with_reducible repeat (first | apply Kd.R_alloc | apply Kd.R_drewN | apply Kd.R_drew)); exact HO_5.out))) (Kd.R_lt (by (with_reducible repeat (first | apply Kd.R_alloc | apply Kd.R_drewN | apply Kd.R_drew)); exact HO_6.out))) (Kd.R_lt (by (with_reducible repeat (first | apply Kd.R_alloc | apply Kd.R_drewN | apply Kd.R_drew)); exact HO_7.out))) (Kd.R_lt (by (with_reducible repeat (first | apply Kd.R_alloc | apply Kd.R_drewN | apply Kd.R_drew)); exact HO147.out))) (Kd.R_lt (by (with_reducible repeat (first | apply Kd.R_alloc | apply Kd.R_drewN | apply Kd.R_drew)); exact HO150.out))) (Kd.R_lt (by (with_reducible repeat (first | apply Kd.R_alloc | apply Kd.R_drewN | apply Kd.R_drew)); exact HO154.out))) (Kd.R_lt (by (with_reducible repeat (first | apply Kd.R_alloc | apply Kd.R_drewN | apply Kd.R_drew)); exact HO156.out))) (below_size (by repeat (first | (with_reducible first | exact HB.out | apply below_alloc | apply pw_below_drewN | apply below_drew1) | exact HB.out)))); have n8_ := Aside0.mk (below_step (by repeat (first | (with_reducible first | exact HB.out | apply below_alloc | apply pw_below_drewN | apply below_drew1) | exact HB.out)) hb); clear HO_5; clear HO_6; clear HO_7; clear HO147; clear HO150; clear HO154; clear HO156; clear HB; have HO_5 := n0_; have HO_6 := n1_; have HO_7 := n2_; have HO147 := n3_; have HO150 := n4_; have HO154 := n5_; have HO156 := n6_; have HO159 := n7_; have HB := n8_; clear n0_ n1_ n2_ n3_ n4_ n5_ n6_ n7_ n8_; (try clear hb); (try clear hb2); (try clear hk); (try clear hi); (try clear ho0); obtain ⟨Ao39, co39, eo39⟩ := Kd.R_slice HO_5.out; subst eo39; obtain ⟨Ao40, co40, eo40⟩ := Kd.R_slice HO159.out; subst eo40) | ((with_reducible refine gate_callee (f := 11) rfl ?_); refine goesL_ (some 56) rfl rfl Try.func11 (by kernel_rfl) rfl #[.slice Ao39 t135.length co39, .slice Ao40 t157.length co40] rfl (by (try simp only [List.map_toArray, List.map_cons, List.map_nil]); first | done | rfl | (simp only [List.length_drop, List.length_take]; rfl)) ?_; (with_reducible refine (laws_vtSameList.calls k3 _ _ t135 _ _ t157 true _ ?side1 ?side2 ?side3 ?side4 A26.out).mono ?_); (case side1 => repeat (first | exact (Kd.R_reads' HO_5.out).2.2 | (with_reducible refine Kd.C_alloc ?_ _) | (with_reducible refine Kd.C_drewN ?_ _) | (with_reducible refine Kd.C_drew ?_))); (case side2 => exact (Kd.R_reads' HO_5.out).2.1); (case side3 => repeat (first | exact (Kd.R_reads' HO159.out).2.2 | (with_reducible refine Kd.C_alloc ?_ _) | (with_reducible refine Kd.C_drewN ?_ _) | (with_reducible refine Kd.C_drew ?_))); (case side4 => exact (Kd.R_reads' HO159.out).2.1); rintro e w' ⟨rfl, ⟨nd, rfl⟩⟩; refine ⟨_, rfl, ?_⟩; obtain ⟨Ao41, co41, eo41⟩ := Kd.R_slice HO_6.out; subst eo41; obtain ⟨Ao42, co42, eo42⟩ := Kd.R_slice HO_7.out; subst eo42) | (go_at_call 11; (with_reducible refine (laws_vtSameList.calls k3 _ _ t136 _ _ x7_3 true _ ?side1 ?side2 ?side3 ?side4 A28.out).mono ?_); (case side1 => repeat (first | exact (Kd.R_reads' HO_6.out).2.2 | (with_reducible refine Kd.C_alloc ?_ _) | (with_reducible refine Kd.C_drewN ?_ _) | (with_reducible refine Kd.C_drew ?_))); (case side2 => exact (Kd.R_reads' HO_6.out).2.1); (case side3 => repeat (first | exact (Kd.R_reads' HO_7.out).2.2 | (with_reducible refine Kd.C_alloc ?_ _) | (with_reducible refine Kd.C_drewN ?_ _) | (with_reducible refine Kd.C_drew ?_))); (case side4 => exact (Kd.R_reads' HO_7.out).2.1); rintro e w' ⟨rfl, ⟨nd, rfl⟩⟩) | ((with_reducible refine gate_dst (N := 64) rfl ?_); (try (refine gate_guard (by rfl) ?_; dsimp only)); refine Kd.R_lit Kd.string _ 9 ?hg (N := 64) ?hd (xs := ([(⟨#[105]⟩ : ByteArray)] : List ByteArray)) (inner := [.string (⟨#[105]⟩ : ByteArray)]) (ok := fun _ => True) (okp := fun _ => True) ?hr ?hp (fun _ hk => hk) trivial (Below.refl _ _) (Nat.le_refl _) (by simp) ?_; (case hd => rfl); (case hg => rfl); (case hr => first | (go_simp; done) | (go_simp; rfl)); (case hp => exact (Reps.one (show Kd.M Kd.string _ _ _ (⟨#[105]⟩ : ByteArray) [.string (⟨#[105]⟩ : ByteArray)] from rfl) (Reps.none _ _))); intro v163 w43 ho44 hb hg_ hnew_; clear hg_ hnew_; (first | rw [← Ny162.out] at ho44 | (simp only [Int.reduceToNat] at ho44; rw [← Ny162.out] at ho44)); have n0_ := Aside0.mk (Kd.R_elder' (by (with_reducible repeat (first | apply Kd.R_alloc | apply Kd.R_drewN | apply Kd.R_drew)); exact HO_5.out) (Kd.R_base ho44) hb); have n1_ := Aside0.mk (Kd.R_elder' (by (with_reducible repeat (first | apply Kd.R_alloc | apply Kd.R_drewN | apply Kd.R_drew)); exact HO_6.out) (Kd.R_base ho44) hb); have n2_ := Aside0.mk (Kd.R_elder' (by (with_reducible repeat (first | apply Kd.R_alloc | apply Kd.R_drewN | apply Kd.R_drew)); exact HO_7.out) (Kd.R_base ho44) hb); have n3_ := Aside0.mk (Kd.R_elder' (by (with_reducible repeat (first | apply Kd.R_alloc | apply Kd.R_drewN | apply Kd.R_drew)); exact HO147.out) (Kd.R_base ho44) hb); have n4_ := Aside0.mk (Kd.R_elder' (by (with_reducible repeat (first | apply Kd.R_alloc | apply Kd.R_drewN | apply Kd.R_drew)); exact HO150.out) (Kd.R_base ho44) hb); have n5_ := Aside0.mk (Kd.R_elder' (by (with_reducible repeat (first | apply Kd.R_alloc | apply Kd.R_drewN | apply Kd.R_drew)); exact HO154.out) (Kd.R_base ho44) hb); have n6_ := Aside0.mk (Kd.R_elder' (by (with_reducible repeat (first | apply Kd.R_alloc | apply Kd.R_drewN | apply Kd.R_drew)); exact HO156.out) (Kd.R_base ho44) hb); have n7_ := Aside0.mk (Kd.R_elder' (by (with_reducible repeat (first | apply Kd.R_alloc | apply Kd.R_drewN | apply Kd.R_drew)); exact HO159.out) (Kd.R_base ho44) hb); have n8_ := Aside0.mk (Kd.R_lower (Kd.R_new' (Kd.R_new' (Kd.R_new' (Kd.R_new' (Kd.R_new' (Kd.R_new' (Kd.R_new' (Kd.R_new' ho44 (Kd.R_lt (by (with_reducible repeat (first | apply Kd.R_alloc | apply Kd.R_drewN | apply Kd.R_drew)); exact HO_5.out))) (Kd.R_lt (by (with_reducible repeat (first | apply Kd.R_alloc | apply Kd.R_drewN | apply Kd.R_drew)); exact HO_6.out))) (Kd.R_lt (by (with_reducible repeat (first | apply Kd.R_alloc | apply Kd.R_drewN | apply Kd.R_drew)); exact HO_7.out))) (Kd.R_lt (by (with_reducible repeat (first | apply Kd.R_alloc | apply Kd.R_drewN | apply Kd.R_drew)); exact HO147.out))) (Kd.R_lt (by (with_reducible repeat (first | apply Kd.R_alloc | apply Kd.R_drewN | apply Kd.R_drew)); exact HO150.out))) (Kd.R_lt (by (with_reducible repeat (first | apply Kd.R_alloc | apply Kd.R_drewN | apply Kd.R_drew)); exact HO154.out))) (Kd.R_lt (by (with_reducible repeat (first | apply Kd.R_alloc | apply Kd.R_drewN | apply Kd.R_drew)); exact HO156.out))) (Kd.R_lt (by (with_reducible repeat (first | apply Kd.R_alloc | apply Kd.R_drewN | apply Kd.R_drew)); exact HO159.out))) (below_size (by repeat (first | (with_reducible first | exact HB.out | apply below_alloc | apply pw_below_drewN | apply below_drew1) | exact HB.out)))); have n9_ := Aside0.mk (below_step (by repeat (first | (with_reducible first | exact HB.out | apply below_alloc | apply pw_below_drewN | apply below_drew1) | exact HB.out)) hb); clear HO_5; clear HO_6; clear HO_7; clear HO147; clear HO150; clear HO154; clear HO156; clear HO159; clear HB; have HO_5 := n0_; have HO_6 := n1_; have HO_7 := n2_; have HO147 := n3_; have HO150 := n4_; have HO154 := n5_; have HO156 := n6_; have HO159 := n7_; have HO164 := n8_; have HB := n9_; clear n0_ n1_ n2_ n3_ n4_ n5_ n6_ n7_ n8_ n9_; clear hb ho44; obtain ⟨Ao45, co45, eo45⟩ := Kd.R_slice HO154.out; subst eo45; obtain ⟨Ao46, co46, eo46⟩ := Kd.R_slice HO164.out; subst eo46) | (go_at_call 11; (with_reducible refine (laws_vtSameList.calls k3 _ _ t151 _ _ y162 t165 _ ?side1 ?side2 ?side3 ?side4 A30.out).mono ?_); (case side1 => repeat (first | exact (Kd.R_reads' HO154.out).2.2 | (with_reducible refine Kd.C_alloc ?_ _) | (with_reducible refine Kd.C_drewN ?_ _) | (with_reducible refine Kd.C_drew ?_))); (case side2 => exact (Kd.R_reads' HO154.out).2.1); (case side3 => repeat (first | exact (Kd.R_reads' HO164.out).2.2 | (with_reducible refine Kd.C_alloc ?_ _) | (with_reducible refine Kd.C_drewN ?_ _) | (with_reducible refine Kd.C_drew ?_))); (case side4 => exact (Kd.R_reads' HO164.out).2.1); rintro e w' ⟨rfl, ⟨nd, rfl⟩⟩))
                        go_ret
                        exact ⟨by first | rfl | (simp [errW_none, errW_some] <;> rfl) | (simp [*, errW_none, errW_some] <;> rfl), by repeat (first | (with_reducible first | exact HB.out | apply below_alloc | apply pw_below_drewN | apply below_drew1) | exact HB.out)⟩
                      · replace c29 := Bool.eq_false_iff.mpr c29
                        subst c29
                        have H1 : (some false) = some r := by rw [if_neg (show ¬ (false = true) by decide)] at H; exact H
                        clear H
                        have H := H1
                        clear H1
                        obtain rfl := Option.some.inj H
                        go_wp2_with (first | ((with_reducible refine gate_dst (N := 47) rfl ?_); (try (refine gate_guard (by rfl) ?_; dsimp only)); refine Kd.R_lit Kd.string _ 9 ?hg (N := 47) ?hd (xs := ([(⟨#[105]⟩ : ByteArray)] : List ByteArray)) (inner := [.string (⟨#[105]⟩ : ByteArray)]) (ok := fun _ => True) (okp := fun _ => True) ?hr ?hp (fun _ hk => hk) trivial (Below.refl _ _) (Nat.le_refl _) (by simp) ?_; (case hd => rfl); (case hg => rfl); (case hr => first | (go_simp; done) | (go_simp; rfl)); (case hp => exact (Reps.one (show Kd.M Kd.string _ _ _ (⟨#[105]⟩ : ByteArray) [.string (⟨#[105]⟩ : ByteArray)] from rfl) (Reps.none _ _))); intro v146 w47 ho48 hb hg_ hnew_; clear hg_ hnew_; (first | rw [← Ny145.out] at ho48 | (simp only [Int.reduceToNat] at ho48; rw [← Ny145.out] at ho48)); have n0_ := Aside0.mk (Kd.R_elder' (by (with_reducible repeat (first | apply Kd.R_alloc | apply Kd.R_drewN | apply Kd.R_drew)); exact HO_5.out) (Kd.R_base ho48) hb); have n1_ := Aside0.mk (Kd.R_elder' (by (with_reducible repeat (first | apply Kd.R_alloc | apply Kd.R_drewN | apply Kd.R_drew)); exact HO_6.out) (Kd.R_base ho48) hb); have n2_ := Aside0.mk (Kd.R_elder' (by (with_reducible repeat (first | apply Kd.R_alloc | apply Kd.R_drewN | apply Kd.R_drew)); exact HO_7.out) (Kd.R_base ho48) hb); have n3_ := Aside0.mk (Kd.R_lower (Kd.R_new' (Kd.R_new' (Kd.R_new' ho48 (Kd.R_lt (by (with_reducible repeat (first | apply Kd.R_alloc | apply Kd.R_drewN | apply Kd.R_drew)); exact HO_5.out))) (Kd.R_lt (by (with_reducible repeat (first | apply Kd.R_alloc | apply Kd.R_drewN | apply Kd.R_drew)); exact HO_6.out))) (Kd.R_lt (by (with_reducible repeat (first | apply Kd.R_alloc | apply Kd.R_drewN | apply Kd.R_drew)); exact HO_7.out))) (below_size (by repeat (first | (with_reducible first | exact HB.out | apply below_alloc | apply pw_below_drewN | apply below_drew1) | exact HB.out)))); have n4_ := Aside0.mk (below_step (by repeat (first | (with_reducible first | exact HB.out | apply below_alloc | apply pw_below_drewN | apply below_drew1) | exact HB.out)) hb); clear HO_5; clear HO_6; clear HO_7; clear HB; have HO_5 := n0_; have HO_6 := n1_; have HO_7 := n2_; have HO147 := n3_; have HB := n4_; clear n0_ n1_ n2_ n3_ n4_; clear hb ho48) | ((with_reducible refine gate_dst (N := 48) rfl ?_); (try (refine gate_guard (by rfl) ?_; dsimp only)); refine Kd.R_lit Kd.string _ 9 ?hg (N := 48) ?hd (xs := ([(⟨#[105]⟩ : ByteArray)] : List ByteArray)) (inner := [.string (⟨#[105]⟩ : ByteArray)]) (ok := fun _ => True) (okp := fun _ => True) ?hr ?hp (fun _ hk => hk) trivial (Below.refl _ _) (Nat.le_refl _) (by simp) ?_; (case hd => rfl); (case hg => rfl); (case hr => first | (go_simp; done) | (go_simp; rfl)); (case hp => exact (Reps.one (show Kd.M Kd.string _ _ _ (⟨#[105]⟩ : ByteArray) [.string (⟨#[105]⟩ : ByteArray)] from rfl) (Reps.none _ _))); intro v149 w49 ho50 hb hg_ hnew_; clear hg_ hnew_; (first | rw [← Ny148.out] at ho50 | (simp only [Int.reduceToNat] at ho50; rw [← Ny148.out] at ho50)); have n0_ := Aside0.mk (Kd.R_elder' (by (with_reducible repeat (first | apply Kd.R_alloc | apply Kd.R_drewN | apply Kd.R_drew)); exact HO_5.out) (Kd.R_base ho50) hb); have n1_ := Aside0.mk (Kd.R_elder' (by (with_reducible repeat (first | apply Kd.R_alloc | apply Kd.R_drewN | apply Kd.R_drew)); exact HO_6.out) (Kd.R_base ho50) hb); have n2_ := Aside0.mk (Kd.R_elder' (by (with_reducible repeat (first | apply Kd.R_alloc | apply Kd.R_drewN | apply Kd.R_drew)); exact HO_7.out) (Kd.R_base ho50) hb); have n3_ := Aside0.mk (Kd.R_elder' (by (with_reducible repeat (first | apply Kd.R_alloc | apply Kd.R_drewN | apply Kd.R_drew)); exact HO147.out) (Kd.R_base ho50) hb); have n4_ := Aside0.mk (Kd.R_lower (Kd.R_new' (Kd.R_new' (Kd.R_new' (Kd.R_new' ho50 (Kd.R_lt (by (with_reducible repeat (first | apply Kd.R_alloc | apply Kd.R_drewN | apply Kd.R_drew)); exact HO_5.out))) (Kd.R_lt (by (with_reducible repeat (first | apply Kd.R_alloc | apply Kd.R_drewN | apply Kd.R_drew)); exact HO_6.out))) (Kd.R_lt (by (with_reducible repeat (first | apply Kd.R_alloc | apply Kd.R_drewN | apply Kd.R_drew)); exact HO_7.out))) (Kd.R_lt (by (with_reducible repeat (first | apply Kd.R_alloc | apply Kd.R_drewN | apply Kd.R_drew)); exact HO147.out))) (below_size (by repeat (first | (with_reducible first | exact HB.out | apply below_alloc | apply pw_below_drewN | apply below_drew1) | exact HB.out)))); have n5_ := Aside0.mk (below_step (by repeat (first | (with_reducible first | exact HB.out | apply below_alloc | apply pw_below_drewN | apply below_drew1) | exact HB.out)) hb); clear HO_5; clear HO_6; clear HO_7; clear HO147; clear HB; have HO_5 := n0_; have HO_6 := n1_; have HO_7 := n2_; have HO147 := n3_; have HO150 := n4_; have HB := n5_; clear n0_ n1_ n2_ n3_ n4_ n5_; clear hb ho50; obtain ⟨Ao51, co51, eo51⟩ := Kd.R_slice HO147.out; subst eo51; obtain ⟨Ao52, co52, eo52⟩ := Kd.R_slice HO150.out; subst eo52) | ((with_reducible refine gate_callee (f := 10) rfl ?_); refine goesL_ (some 49) rfl rfl Try.func10 (by kernel_rfl) rfl #[.slice Ao51 y145.length co51, .slice Ao52 y148.length co52] rfl (by (try simp only [List.map_toArray, List.map_cons, List.map_nil]); first | done | rfl | (simp only [List.length_drop, List.length_take]; rfl)) ?_; (with_reducible refine (impl_VtMeet.calls _ _ y145 _ _ y148 t151 t152 _ ?side1 ?side2 ?side3 ?side4 A24.out).mono ?_); (case side1 => repeat (first | exact (Kd.R_reads' HO147.out).2.2 | (with_reducible refine Kd.C_alloc ?_ _) | (with_reducible refine Kd.C_drewN ?_ _) | (with_reducible refine Kd.C_drew ?_))); (case side2 => exact (Kd.R_reads' HO147.out).2.1); (case side3 => repeat (first | exact (Kd.R_reads' HO150.out).2.2 | (with_reducible refine Kd.C_alloc ?_ _) | (with_reducible refine Kd.C_drewN ?_ _) | (with_reducible refine Kd.C_drew ?_))); (case side4 => exact (Kd.R_reads' HO150.out).2.1); rintro e w53 ⟨v153, v155, rfl, ho0, ho1, hb⟩; refine ⟨_, rfl, ?_⟩; have n0_ := Aside0.mk (Kd.R_mono (Kd.R_told (Kd.R_told (Kd.R_old (by (with_reducible repeat (first | apply Kd.R_alloc | apply Kd.R_drewN | apply Kd.R_drew)); exact HO_5.out) hb) (Kd.R_base ho0)) (Kd.R_base ho1)) (fun _ h_ => h_.1)); have n1_ := Aside0.mk (Kd.R_mono (Kd.R_told (Kd.R_told (Kd.R_old (by (with_reducible repeat (first | apply Kd.R_alloc | apply Kd.R_drewN | apply Kd.R_drew)); exact HO_6.out) hb) (Kd.R_base ho0)) (Kd.R_base ho1)) (fun _ h_ => h_.1)); have n2_ := Aside0.mk (Kd.R_mono (Kd.R_told (Kd.R_told (Kd.R_old (by (with_reducible repeat (first | apply Kd.R_alloc | apply Kd.R_drewN | apply Kd.R_drew)); exact HO_7.out) hb) (Kd.R_base ho0)) (Kd.R_base ho1)) (fun _ h_ => h_.1)); have n3_ := Aside0.mk (Kd.R_mono (Kd.R_told (Kd.R_told (Kd.R_old (by (with_reducible repeat (first | apply Kd.R_alloc | apply Kd.R_drewN | apply Kd.R_drew)); exact HO147.out) hb) (Kd.R_base ho0)) (Kd.R_base ho1)) (fun _ h_ => h_.1)); have n4_ := Aside0.mk (Kd.R_mono (Kd.R_told (Kd.R_told (Kd.R_old (by (with_reducible repeat (first | apply Kd.R_alloc | apply Kd.R_drewN | apply Kd.R_drew)); exact HO150.out) hb) (Kd.R_base ho0)) (Kd.R_base ho1)) (fun _ h_ => h_.1)); have n5_ := Aside0.mk (Kd.R_lower (Kd.R_new' (Kd.R_new' (Kd.R_new' (Kd.R_new' (Kd.R_new' ho0 (Kd.R_lt (by (with_reducible repeat (first | apply Kd.R_alloc | apply Kd.R_drewN | apply Kd.R_drew)); exact HO_5.out))) (Kd.R_lt (by (with_reducible repeat (first | apply Kd.R_alloc | apply Kd.R_drewN | apply Kd.R_drew)); exact HO_6.out))) (Kd.R_lt (by (with_reducible repeat (first | apply Kd.R_alloc | apply Kd.R_drewN | apply Kd.R_drew)); exact HO_7.out))) (Kd.R_lt (by (with_reducible repeat (first | apply Kd.R_alloc | apply Kd.R_drewN | apply Kd.R_drew)); exact HO147.out))) (Kd.R_lt (by (with_reducible repeat (first | apply Kd.R_alloc | apply Kd.R_drewN | apply Kd.R_drew)); exact HO150.out))) (below_size (by repeat (first | (with_reducible first | exact HB.out | apply below_alloc | apply pw_below_drewN | apply below_drew1) | exact HB.out)))); have n6_ := Aside0.mk (Kd.R_lower (Kd.R_new' (Kd.R_new' (Kd.R_new' (Kd.R_new' (Kd.R_new' ho1 (Kd.R_lt (by (with_reducible repeat (first | apply Kd.R_alloc | apply Kd.R_drewN | apply Kd.R_drew)); exact HO_5.out))) (Kd.R_lt (by (with_reducible repeat (first | apply Kd.R_alloc | apply Kd.R_drewN | apply Kd.R_drew)); exact HO_6.out))) (Kd.R_lt (by (with_reducible repeat (first | apply Kd.R_alloc | apply Kd.R_drewN | apply Kd.R_drew)); exact HO_7.out))) (Kd.R_lt (by (with_reducible repeat (first | apply Kd.R_alloc | apply Kd.R_drewN | apply Kd.R_drew)); exact HO147.out))) (Kd.R_lt (by (with_reducible repeat (first | apply Kd.R_alloc | apply Kd.R_drewN | apply Kd.R_drew)); exact HO150.out))) (below_size (by repeat (first | (with_reducible first | exact HB.out | apply below_alloc | apply pw_below_drewN | apply below_drew1) | exact HB.out)))); have n7_ := Aside0.mk (below_step (by repeat (first | (with_reducible first | exact HB.out | apply below_alloc | apply pw_below_drewN | apply below_drew1) | exact HB.out)) hb); clear HO_5; clear HO_6; clear HO_7; clear HO147; clear HO150; clear HB; have HO_5 := n0_; have HO_6 := n1_; have HO_7 := n2_; have HO147 := n3_; have HO150 := n4_; have HO154 := n5_; have HO156 := n6_; have HB := n7_; clear n0_ n1_ n2_ n3_ n4_ n5_ n6_ n7_; (try clear hb); (try clear hb2); (try clear hk); (try clear hi); (try clear ho0); (try clear ho1)) | ((with_reducible refine gate_callee (f := 12) rfl ?_); refine goesL_ (some 55) rfl rfl Try.func12 (by kernel_rfl) rfl #[.slice A0 l0.length c0, .slice A1 l1.length c1] rfl (by (try simp only [List.map_toArray, List.map_cons, List.map_nil]); first | done | rfl | (simp only [List.length_drop, List.length_take]; rfl)) ?_; (with_reducible refine (spec_Meet.calls k3 _ _ l0 _ _ l1 t157 _ ?side1 ?side2 ?side3 ?side4 A25.out).mono ?_); (case side1 => repeat (first | exact (Kd.C_below HR0.out HB.out) | (with_reducible refine Kd.C_alloc ?_ _) | (with_reducible refine Kd.C_drewN ?_ _) | (with_reducible refine Kd.C_drew ?_))); (case side2 => exact HC0.out); (case side3 => repeat (first | exact (Kd.C_below HR1.out HB.out) | (with_reducible refine Kd.C_alloc ?_ _) | (with_reducible refine Kd.C_drewN ?_ _) | (with_reducible refine Kd.C_drew ?_))); (case side4 => exact HC1.out); rintro e w54 ⟨v158, rfl, ho0, hb⟩; refine ⟨_, rfl, ?_⟩; have n0_ := Aside0.mk (Kd.R_elder' (by (with_reducible repeat (first | apply Kd.R_alloc | apply Kd.R_drewN | apply Kd.R_drew)); exact HO_5.out) (Kd.R_base ho0) hb); have n1_ := Aside0.mk (Kd.R_elder' (by (with_reducible repeat (first | apply Kd.R_alloc | apply Kd.R_drewN | apply Kd.R_drew)); exact HO_6.out) (Kd.R_base ho0) hb); have n2_ := Aside0.mk (Kd.R_elder' (by (with_reducible repeat (first | apply Kd.R_alloc | apply Kd.R_drewN | apply Kd.R_drew)); exact HO_7.out) (Kd.R_base ho0) hb); have n3_ := Aside0.mk (Kd.R_elder' (by (with_reducible repeat (first | apply Kd.R_alloc | apply Kd.R_drewN | apply Kd.R_drew)); exact HO147.out) (Kd.R_base ho0) hb); have n4_ := Aside0.mk (Kd.R_elder' (by (with_reducible repeat (first | apply Kd.R_alloc | apply Kd.R_drewN | apply Kd.R_drew)); exact HO150.out) (Kd.R_base ho0) hb); have n5_ := Aside0.mk (Kd.R_elder' (by (with_reducible repeat (first | apply Kd.R_alloc | apply Kd.R_drewN | apply Kd.R_drew)); exact HO154.out) (Kd.R_base ho0) hb); have n6_ := Aside0.mk (Kd.R_elder' (by (with_reducible repeat (first | apply Kd.R_alloc | apply Kd.R_drewN | apply Kd.R_drew)); exact HO156.out) (Kd.R_base ho0) hb); have n7_ := Aside0.mk (Kd.R_lower (Kd.R_new' (Kd.R_new' (Kd.R_new' (Kd.R_new' (Kd.R_new' (Kd.R_new' (Kd.R_new' ho0 (Kd.R_lt (by (with_reducible repeat (first | apply Kd.R_alloc | apply Kd.R_drewN | apply Kd.R_drew)); exact HO_5.out))) (Kd.R_lt (by (with_reducible repeat (first | apply Kd.R_alloc | apply Kd.R_drewN | apply Kd.R_drew)); exact HO_6.out))) (Kd.R_lt (by (with_reducible repeat (first | apply Kd.R_alloc | apply Kd.R_drewN | apply Kd.R_drew)); exact HO_7.out))) (Kd.R_lt (by (with_reducible repeat (first | apply Kd.R_alloc | apply Kd.R_drewN | apply Kd.R_drew)); exact HO147.out))) (Kd.R_lt (by (with_reducible repeat (first | apply Kd.R_alloc | apply Kd.R_drewN | apply Kd.R_drew)); exact HO150.out))) (Kd.R_lt (by (with_reducible repeat (first | apply Kd.R_alloc | apply Kd.R_drewN | apply Kd.R_drew)); exact HO154.out))) (Kd.R_lt (by (with_reducible repeat (first | apply Kd.R_alloc | apply Kd.R_drewN | apply Kd.R_drew)); exact HO156.out))) (below_size (by repeat (first | (with_reducible first | exact HB.out | apply below_alloc | apply pw_below_drewN | apply below_drew1) | exact HB.out)))); have n8_ := Aside0.mk (below_step (by repeat (first | (with_reducible first | exact HB.out | apply below_alloc | apply pw_below_drewN | apply below_drew1) | exact HB.out)) hb); clear HO_5; clear HO_6; clear HO_7; clear HO147; clear HO150; clear HO154; clear HO156; clear HB; have HO_5 := n0_; have HO_6 := n1_; have HO_7 := n2_; have HO147 := n3_; have HO150 := n4_; have HO154 := n5_; have HO156 := n6_; have HO159 := n7_; have HB := n8_; clear n0_ n1_ n2_ n3_ n4_ n5_ n6_ n7_ n8_; (try clear hb); (try clear hb2); (try clear hk); (try clear hi); (try clear ho0); obtain ⟨Ao55, co55, eo55⟩ := Kd.R_slice HO_5.out; subst eo55; obtain ⟨Ao56, co56, eo56⟩ := Kd.R_slice HO159.out; subst eo56) | ((with_reducible refine gate_callee (f := 11) rfl ?_); refine goesL_ (some 56) rfl rfl Try.func11 (by kernel_rfl) rfl #[.slice Ao55 t135.length co55, .slice Ao56 t157.length co56] rfl (by (try simp only [List.map_toArray, List.map_cons, List.map_nil]); first | done | rfl | (simp only [List.length_drop, List.length_take]; rfl)) ?_; (with_reducible refine (laws_vtSameList.calls k3 _ _ t135 _ _ t157 true _ ?side1 ?side2 ?side3 ?side4 A26.out).mono ?_); (case side1 => repeat (first | exact (Kd.R_reads' HO_5.out).2.2 | (with_reducible refine Kd.C_alloc ?_ _) | (with_reducible refine Kd.C_drewN ?_ _) | (with_reducible refine Kd.C_drew ?_))); (case side2 => exact (Kd.R_reads' HO_5.out).2.1); (case side3 => repeat (first | exact (Kd.R_reads' HO159.out).2.2 | (with_reducible refine Kd.C_alloc ?_ _) | (with_reducible refine Kd.C_drewN ?_ _) | (with_reducible refine Kd.C_drew ?_))); (case side4 => exact (Kd.R_reads' HO159.out).2.1); rintro e w' ⟨rfl, ⟨nd, rfl⟩⟩; refine ⟨_, rfl, ?_⟩; obtain ⟨Ao57, co57, eo57⟩ := Kd.R_slice HO_6.out; subst eo57; obtain ⟨Ao58, co58, eo58⟩ := Kd.R_slice HO_7.out; subst eo58) | (go_at_call 11; (with_reducible refine (laws_vtSameList.calls k3 _ _ t136 _ _ x7_3 false _ ?side1 ?side2 ?side3 ?side4 A28.out).mono ?_); (case side1 => repeat (first | exact (Kd.R_reads' HO_6.out).2.2 | (with_reducible refine Kd.C_alloc ?_ _) | (with_reducible refine Kd.C_drewN ?_ _) | (with_reducible refine Kd.C_drew ?_))); (case side2 => exact (Kd.R_reads' HO_6.out).2.1); (case side3 => repeat (first | exact (Kd.R_reads' HO_7.out).2.2 | (with_reducible refine Kd.C_alloc ?_ _) | (with_reducible refine Kd.C_drewN ?_ _) | (with_reducible refine Kd.C_drew ?_))); (case side4 => exact (Kd.R_reads' HO_7.out).2.1); rintro e w' ⟨rfl, ⟨nd, rfl⟩⟩))
                        go_ret
                        exact ⟨by first | rfl | (simp [errW_none, errW_some] <;> rfl) | (simp [*, errW_none, errW_some] <;> rfl), by repeat (first | (with_reducible first | exact HB.out | apply below_alloc | apply pw_below_drewN | apply below_drew1) | exact HB.out)⟩
                    · replace c27 := Bool.eq_false_iff.mpr c27
                      subst c27
                      have H1 : (some false) = some r := by rw [if_neg (show ¬ (false = true) by decide)] at H; exact H
                      clear H
                      have H := H1
                      clear H1
                      obtain rfl := Option.some.inj H
                      go_wp2_with (first | ((with_reducible refine gate_dst (N := 47) rfl ?_); (try (refine gate_guard (by rfl) ?_; dsimp only)); refine Kd.R_lit Kd.string _ 9 ?hg (N := 47) ?hd (xs := ([(⟨#[105]⟩ : ByteArray)] : List ByteArray)) (inner := [.string (⟨#[105]⟩ : ByteArray)]) (ok := fun _ => True) (okp := fun _ => True) ?hr ?hp (fun _ hk => hk) trivial (Below.refl _ _) (Nat.le_refl _) (by simp) ?_; (case hd => rfl); (case hg => rfl); (case hr => first | (go_simp; done) | (go_simp; rfl)); (case hp => exact (Reps.one (show Kd.M Kd.string _ _ _ (⟨#[105]⟩ : ByteArray) [.string (⟨#[105]⟩ : ByteArray)] from rfl) (Reps.none _ _))); intro v146 w59 ho60 hb hg_ hnew_; clear hg_ hnew_; (first | rw [← Ny145.out] at ho60 | (simp only [Int.reduceToNat] at ho60; rw [← Ny145.out] at ho60)); have n0_ := Aside0.mk (Kd.R_elder' (by (with_reducible repeat (first | apply Kd.R_alloc | apply Kd.R_drewN | apply Kd.R_drew)); exact HO_5.out) (Kd.R_base ho60) hb); have n1_ := Aside0.mk (Kd.R_elder' (by (with_reducible repeat (first | apply Kd.R_alloc | apply Kd.R_drewN | apply Kd.R_drew)); exact HO_6.out) (Kd.R_base ho60) hb); have n2_ := Aside0.mk (Kd.R_elder' (by (with_reducible repeat (first | apply Kd.R_alloc | apply Kd.R_drewN | apply Kd.R_drew)); exact HO_7.out) (Kd.R_base ho60) hb); have n3_ := Aside0.mk (Kd.R_lower (Kd.R_new' (Kd.R_new' (Kd.R_new' ho60 (Kd.R_lt (by (with_reducible repeat (first | apply Kd.R_alloc | apply Kd.R_drewN | apply Kd.R_drew)); exact HO_5.out))) (Kd.R_lt (by (with_reducible repeat (first | apply Kd.R_alloc | apply Kd.R_drewN | apply Kd.R_drew)); exact HO_6.out))) (Kd.R_lt (by (with_reducible repeat (first | apply Kd.R_alloc | apply Kd.R_drewN | apply Kd.R_drew)); exact HO_7.out))) (below_size (by repeat (first | (with_reducible first | exact HB.out | apply below_alloc | apply pw_below_drewN | apply below_drew1) | exact HB.out)))); have n4_ := Aside0.mk (below_step (by repeat (first | (with_reducible first | exact HB.out | apply below_alloc | apply pw_below_drewN | apply below_drew1) | exact HB.out)) hb); clear HO_5; clear HO_6; clear HO_7; clear HB; have HO_5 := n0_; have HO_6 := n1_; have HO_7 := n2_; have HO147 := n3_; have HB := n4_; clear n0_ n1_ n2_ n3_ n4_; clear hb ho60) | ((with_reducible refine gate_dst (N := 48) rfl ?_); (try (refine gate_guard (by rfl) ?_; dsimp only)); refine Kd.R_lit Kd.string _ 9 ?hg (N := 48) ?hd (xs := ([(⟨#[105]⟩ : ByteArray)] : List ByteArray)) (inner := [.string (⟨#[105]⟩ : ByteArray)]) (ok := fun _ => True) (okp := fun _ => True) ?hr ?hp (fun _ hk => hk) trivial (Below.refl _ _) (Nat.le_refl _) (by simp) ?_; (case hd => rfl); (case hg => rfl); (case hr => first | (go_simp; done) | (go_simp; rfl)); (case hp => exact (Reps.one (show Kd.M Kd.string _ _ _ (⟨#[105]⟩ : ByteArray) [.string (⟨#[105]⟩ : ByteArray)] from rfl) (Reps.none _ _))); intro v149 w61 ho62 hb hg_ hnew_; clear hg_ hnew_; (first | rw [← Ny148.out] at ho62 | (simp only [Int.reduceToNat] at ho62; rw [← Ny148.out] at ho62)); have n0_ := Aside0.mk (Kd.R_elder' (by (with_reducible repeat (first | apply Kd.R_alloc | apply Kd.R_drewN | apply Kd.R_drew)); exact HO_5.out) (Kd.R_base ho62) hb); have n1_ := Aside0.mk (Kd.R_elder' (by (with_reducible repeat (first | apply Kd.R_alloc | apply Kd.R_drewN | apply Kd.R_drew)); exact HO_6.out) (Kd.R_base ho62) hb); have n2_ := Aside0.mk (Kd.R_elder' (by (with_reducible repeat (first | apply Kd.R_alloc | apply Kd.R_drewN | apply Kd.R_drew)); exact HO_7.out) (Kd.R_base ho62) hb); have n3_ := Aside0.mk (Kd.R_elder' (by (with_reducible repeat (first | apply Kd.R_alloc | apply Kd.R_drewN | apply Kd.R_drew)); exact HO147.out) (Kd.R_base ho62) hb); have n4_ := Aside0.mk (Kd.R_lower (Kd.R_new' (Kd.R_new' (Kd.R_new' (Kd.R_new' ho62 (Kd.R_lt (by (with_reducible repeat (first | apply Kd.R_alloc | apply Kd.R_drewN | apply Kd.R_drew)); exact HO_5.out))) (Kd.R_lt (by (with_reducible repeat (first | apply Kd.R_alloc | apply Kd.R_drewN | apply Kd.R_drew)); exact HO_6.out))) (Kd.R_lt (by (with_reducible repeat (first | apply Kd.R_alloc | apply Kd.R_drewN | apply Kd.R_drew)); exact HO_7.out))) (Kd.R_lt (by (with_reducible repeat (first | apply Kd.R_alloc | apply Kd.R_drewN | apply Kd.R_drew)); exact HO147.out))) (below_size (by repeat (first | (with_reducible first | exact HB.out | apply below_alloc | apply pw_below_drewN | apply below_drew1) | exact HB.out)))); have n5_ := Aside0.mk (below_step (by repeat (first | (with_reducible first | exact HB.out | apply below_alloc | apply pw_below_drewN | apply below_drew1) | exact HB.out)) hb); clear HO_5; clear HO_6; clear HO_7; clear HO147; clear HB; have HO_5 := n0_; have HO_6 := n1_; have HO_7 := n2_; have HO147 := n3_; have HO150 := n4_; have HB := n5_; clear n0_ n1_ n2_ n3_ n4_ n5_; clear hb ho62; obtain ⟨Ao63, co63, eo63⟩ := Kd.R_slice HO147.out; subst eo63; obtain ⟨Ao64, co64, eo64⟩ := Kd.R_slice HO150.out; subst eo64) | ((with_reducible refine gate_callee (f := 10) rfl ?_); refine goesL_ (some 49) rfl rfl Try.func10 (by kernel_rfl) rfl #[.slice Ao63 y145.length co63, .slice Ao64 y148.length co64] rfl (by (try simp only [List.map_toArray, List.map_cons, List.map_nil]); first | done | rfl | (simp only [List.length_drop, List.length_take]; rfl)) ?_; (with_reducible refine (impl_VtMeet.calls _ _ y145 _ _ y148 t151 t152 _ ?side1 ?side2 ?side3 ?side4 A24.out).mono ?_); (case side1 => repeat (first | exact (Kd.R_reads' HO147.out).2.2 | (with_reducible refine Kd.C_alloc ?_ _) | (with_reducible refine Kd.C_drewN ?_ _) | (with_reducible refine Kd.C_drew ?_))); (case side2 => exact (Kd.R_reads' HO147.out).2.1); (case side3 => repeat (first | exact (Kd.R_reads' HO150.out).2.2 | (with_reducible refine Kd.C_alloc ?_ _) | (with_reducible refine Kd.C_drewN ?_ _) | (with_reducible refine Kd.C_drew ?_))); (case side4 => exact (Kd.R_reads' HO150.out).2.1); rintro e w65 ⟨v153, v155, rfl, ho0, ho1, hb⟩; refine ⟨_, rfl, ?_⟩; have n0_ := Aside0.mk (Kd.R_mono (Kd.R_told (Kd.R_told (Kd.R_old (by (with_reducible repeat (first | apply Kd.R_alloc | apply Kd.R_drewN | apply Kd.R_drew)); exact HO_5.out) hb) (Kd.R_base ho0)) (Kd.R_base ho1)) (fun _ h_ => h_.1)); have n1_ := Aside0.mk (Kd.R_mono (Kd.R_told (Kd.R_told (Kd.R_old (by (with_reducible repeat (first | apply Kd.R_alloc | apply Kd.R_drewN | apply Kd.R_drew)); exact HO_6.out) hb) (Kd.R_base ho0)) (Kd.R_base ho1)) (fun _ h_ => h_.1)); have n2_ := Aside0.mk (Kd.R_mono (Kd.R_told (Kd.R_told (Kd.R_old (by (with_reducible repeat (first | apply Kd.R_alloc | apply Kd.R_drewN | apply Kd.R_drew)); exact HO_7.out) hb) (Kd.R_base ho0)) (Kd.R_base ho1)) (fun _ h_ => h_.1)); have n3_ := Aside0.mk (Kd.R_mono (Kd.R_told (Kd.R_told (Kd.R_old (by (with_reducible repeat (first | apply Kd.R_alloc | apply Kd.R_drewN | apply Kd.R_drew)); exact HO147.out) hb) (Kd.R_base ho0)) (Kd.R_base ho1)) (fun _ h_ => h_.1)); have n4_ := Aside0.mk (Kd.R_mono (Kd.R_told (Kd.R_told (Kd.R_old (by (with_reducible repeat (first | apply Kd.R_alloc | apply Kd.R_drewN | apply Kd.R_drew)); exact HO150.out) hb) (Kd.R_base ho0)) (Kd.R_base ho1)) (fun _ h_ => h_.1)); have n5_ := Aside0.mk (Kd.R_lower (Kd.R_new' (Kd.R_new' (Kd.R_new' (Kd.R_new' (Kd.R_new' ho0 (Kd.R_lt (by (with_reducible repeat (first | apply Kd.R_alloc | apply Kd.R_drewN | apply Kd.R_drew)); exact HO_5.out))) (Kd.R_lt (by (with_reducible repeat (first | apply Kd.R_alloc | apply Kd.R_drewN | apply Kd.R_drew)); exact HO_6.out))) (Kd.R_lt (by (with_reducible repeat (first | apply Kd.R_alloc | apply Kd.R_drewN | apply Kd.R_drew)); exact HO_7.out))) (Kd.R_lt (by (with_reducible repeat (first | apply Kd.R_alloc | apply Kd.R_drewN | apply Kd.R_drew)); exact HO147.out))) (Kd.R_lt (by (with_reducible repeat (first | apply Kd.R_alloc | apply Kd.R_drewN | apply Kd.R_drew)); exact HO150.out))) (below_size (by repeat (first | (with_reducible first | exact HB.out | apply below_alloc | apply pw_below_drewN | apply below_drew1) | exact HB.out)))); have n6_ := Aside0.mk (Kd.R_lower (Kd.R_new' (Kd.R_new' (Kd.R_new' (Kd.R_new' (Kd.R_new' ho1 (Kd.R_lt (by (with_reducible repeat (first | apply Kd.R_alloc | apply Kd.R_drewN | apply Kd.R_drew)); exact HO_5.out))) (Kd.R_lt (by (with_reducible repeat (first | apply Kd.R_alloc | apply Kd.R_drewN | apply Kd.R_drew)); exact HO_6.out))) (Kd.R_lt (by (with_reducible repeat (first | apply Kd.R_alloc | apply Kd.R_drewN | apply Kd.R_drew)); exact HO_7.out))) (Kd.R_lt (by (with_reducible repeat (first | apply Kd.R_alloc | apply Kd.R_drewN | apply Kd.R_drew)); exact HO147.out))) (Kd.R_lt (by (with_reducible repeat (first | apply Kd.R_alloc | apply Kd.R_drewN | apply Kd.R_drew)); exact HO150.out))) (below_size (by repeat (first | (with_reducible first | exact HB.out | apply below_alloc | apply pw_below_drewN | apply below_drew1) | exact HB.out)))); have n7_ := Aside0.mk (below_step (by repeat (first | (with_reducible first | exact HB.out | apply below_alloc | apply pw_below_drewN | apply below_drew1) | exact HB.out)) hb); clear HO_5; clear HO_6; clear HO_7; clear HO147; clear HO150; clear HB; have HO_5 := n0_; have HO_6 := n1_; have HO_7 := n2_; have HO147 := n3_; have HO150 := n4_; have HO154 := n5_; have HO156 := n6_; have HB := n7_; clear n0_ n1_ n2_ n3_ n4_ n5_ n6_ n7_; (try clear hb); (try clear hb2); (try clear hk); (try clear hi); (try clear ho0); (try clear ho1)) | ((with_reducible refine gate_callee (f := 12) rfl ?_); refine goesL_ (some 55) rfl rfl Try.func12 (by kernel_rfl) rfl #[.slice A0 l0.length c0, .slice A1 l1.length c1] rfl (by (try simp only [List.map_toArray, List.map_cons, List.map_nil]); first | done | rfl | (simp only [List.length_drop, List.length_take]; rfl)) ?_; (with_reducible refine (spec_Meet.calls k3 _ _ l0 _ _ l1 t157 _ ?side1 ?side2 ?side3 ?side4 A25.out).mono ?_); (case side1 => repeat (first | exact (Kd.C_below HR0.out HB.out) | (with_reducible refine Kd.C_alloc ?_ _) | (with_reducible refine Kd.C_drewN ?_ _) | (with_reducible refine Kd.C_drew ?_))); (case side2 => exact HC0.out); (case side3 => repeat (first | exact (Kd.C_below HR1.out HB.out) | (with_reducible refine Kd.C_alloc ?_ _) | (with_reducible refine Kd.C_drewN ?_ _) | (with_reducible refine Kd.C_drew ?_))); (case side4 => exact HC1.out); rintro e w66 ⟨v158, rfl, ho0, hb⟩; refine ⟨_, rfl, ?_⟩; have n0_ := Aside0.mk (Kd.R_elder' (by (with_reducible repeat (first | apply Kd.R_alloc | apply Kd.R_drewN | apply Kd.R_drew)); exact HO_5.out) (Kd.R_base ho0) hb); have n1_ := Aside0.mk (Kd.R_elder' (by (with_reducible repeat (first | apply Kd.R_alloc | apply Kd.R_drewN | apply Kd.R_drew)); exact HO_6.out) (Kd.R_base ho0) hb); have n2_ := Aside0.mk (Kd.R_elder' (by (with_reducible repeat (first | apply Kd.R_alloc | apply Kd.R_drewN | apply Kd.R_drew)); exact HO_7.out) (Kd.R_base ho0) hb); have n3_ := Aside0.mk (Kd.R_elder' (by (with_reducible repeat (first | apply Kd.R_alloc | apply Kd.R_drewN | apply Kd.R_drew)); exact HO147.out) (Kd.R_base ho0) hb); have n4_ := Aside0.mk (Kd.R_elder' (by (with_reducible repeat (first | apply Kd.R_alloc | apply Kd.R_drewN | apply Kd.R_drew)); exact HO150.out) (Kd.R_base ho0) hb); have n5_ := Aside0.mk (Kd.R_elder' (by (with_reducible repeat (first | apply Kd.R_alloc | apply Kd.R_drewN | apply Kd.R_drew)); exact HO154.out) (Kd.R_base ho0) hb); have n6_ := Aside0.mk (Kd.R_elder' (by (with_reducible repeat (first | apply Kd.R_alloc | apply Kd.R_drewN | apply Kd.R_drew)); exact HO156.out) (Kd.R_base ho0) hb); have n7_ := Aside0.mk (Kd.R_lower (Kd.R_new' (Kd.R_new' (Kd.R_new' (Kd.R_new' (Kd.R_new' (Kd.R_new' (Kd.R_new' ho0 (Kd.R_lt (by (with_reducible repeat (first | apply Kd.R_alloc | apply Kd.R_drewN | apply Kd.R_drew)); exact HO_5.out))) (Kd.R_lt (by (with_reducible repeat (first | apply Kd.R_alloc | apply Kd.R_drewN | apply Kd.R_drew)); exact HO_6.out))) (Kd.R_lt (by (with_reducible repeat (first | apply Kd.R_alloc | apply Kd.R_drewN | apply Kd.R_drew)); exact HO_7.out))) (Kd.R_lt (by (with_reducible repeat (first | apply Kd.R_alloc | apply Kd.R_drewN | apply Kd.R_drew)); exact HO147.out))) (Kd.R_lt (by (with_reducible repeat (first | apply Kd.R_alloc | apply Kd.R_drewN | apply Kd.R_drew)); exact HO150.out))) (Kd.R_lt (by (with_reducible repeat (first | apply Kd.R_alloc | apply Kd.R_drewN | apply Kd.R_drew)); exact HO154.out))) (Kd.R_lt (by (with_reducible repeat (first | apply Kd.R_alloc | apply Kd.R_drewN | apply Kd.R_drew)); exact HO156.out))) (below_size (by repeat (first | (with_reducible first | exact HB.out | apply below_alloc | apply pw_below_drewN | apply below_drew1) | exact HB.out)))); have n8_ := Aside0.mk (below_step (by repeat (first | (with_reducible first | exact HB.out | apply below_alloc | apply pw_below_drewN | apply below_drew1) | exact HB.out)) hb); clear HO_5; clear HO_6; clear HO_7; clear HO147; clear HO150; clear HO154; clear HO156; clear HB; have HO_5 := n0_; have HO_6 := n1_; have HO_7 := n2_; have HO147 := n3_; have HO150 := n4_; have HO154 := n5_; have HO156 := n6_; have HO159 := n7_; have HB := n8_; clear n0_ n1_ n2_ n3_ n4_ n5_ n6_ n7_ n8_; (try clear hb); (try clear hb2); (try clear hk); (try clear hi); (try clear ho0); obtain ⟨Ao67, co67, eo67⟩ := Kd.R_slice HO_5.out; subst eo67; obtain ⟨Ao68, co68, eo68⟩ := Kd.R_slice HO159.out; subst eo68) | ((with_reducible refine gate_callee (f := 11) rfl ?_); refine goesL_ (some 56) rfl rfl Try.func11 (by kernel_rfl) rfl #[.slice Ao67 t135.length co67, .slice Ao68 t157.length co68] rfl (by (try simp only [List.map_toArray, List.map_cons, List.map_nil]); first | done | rfl | (simp only [List.length_drop, List.length_take]; rfl)) ?_; (with_reducible refine (laws_vtSameList.calls k3 _ _ t135 _ _ t157 false _ ?side1 ?side2 ?side3 ?side4 A26.out).mono ?_); (case side1 => repeat (first | exact (Kd.R_reads' HO_5.out).2.2 | (with_reducible refine Kd.C_alloc ?_ _) | (with_reducible refine Kd.C_drewN ?_ _) | (with_reducible refine Kd.C_drew ?_))); (case side2 => exact (Kd.R_reads' HO_5.out).2.1); (case side3 => repeat (first | exact (Kd.R_reads' HO159.out).2.2 | (with_reducible refine Kd.C_alloc ?_ _) | (with_reducible refine Kd.C_drewN ?_ _) | (with_reducible refine Kd.C_drew ?_))); (case side4 => exact (Kd.R_reads' HO159.out).2.1); rintro e w' ⟨rfl, ⟨nd, rfl⟩⟩; refine ⟨_, rfl, ?_⟩))
                      go_ret
                      exact ⟨by first | rfl | (simp [errW_none, errW_some] <;> rfl) | (simp [*, errW_none, errW_some] <;> rfl), by repeat (first | (with_reducible first | exact HB.out | apply below_alloc | apply pw_below_drewN | apply below_drew1) | exact HB.out)⟩

end Go.Proofs.Ytlnkgifpiinnoaa.M
