-- Written by a program of this session out of the translation; Lean checks it.
import Derived.Test.YtoldgnmgjpjapaaDoorQ0
namespace Go.Proofs.YtoldgnmgjpjapaaDoor.Q
open Go.RowKit Go.Proofs.YtoldgnmgjpjapaaDoorW.PrintWords Go.Proofs.YtoldgnmgjpjapaaDoorW.PrintLast Go.Proofs.YtoldgnmgjpjapaaDoor.Gt
set_option linter.unusedVariables false
set_option linter.unusedSimpArgs false

/-! ### spec_ReadRule: function 9 -/
mutual
def spec_ReadRule.l0 : Nat → ByteArray → List (S41) → Int → Option ((List (S41)) × Bool)
 | 0, _, _, _ => none
 | k + 1, x0, x4, x5 => if x5 < (x0.size : Int) then (spec_ReadRule.l1 k x0 x4 x5 x5) else (some (x4, true))
def spec_ReadRule.j2 : Nat → ByteArray → List (S41) → Int → Int → Option ((List (S41)) × Bool)
 | 0, _, _, _, _ => none
 | k + 1, x0, x4, x5, x6 => if x5 = (x0.size : Int) then (spec_ReadRule.j3 k x0 x4 x5 x6 true) else (if 0 ≤ x5 then (if x5 < (x0.size : Int) then (spec_ReadRule.j3 k x0 x4 x5 x6 ((bt x0 x5) == 44)) else (none)) else (none))
def spec_ReadRule.j3 : Nat → ByteArray → List (S41) → Int → Int → Bool → Option ((List (S41)) × Bool)
 | 0, _, _, _, _, _ => none
 | k + 1, x0, x4, x5, x6, x41 => if x41 = true then (some (([] : List (S41)), false)) else (if 0 ≤ x6 then (if x6 ≤ x5 then (if x5 ≤ (x0.size : Int) then (spec_ReadRule.l2 k x0 x4 (wrap64 (x5 + 1)) false (x0.extract (x6 : Int).toNat (x5 : Int).toNat) (⟨#[]⟩ : ByteArray)) else (none)) else (none)) else (none))
def spec_ReadRule.l2 : Nat → ByteArray → List (S41) → Int → Bool → ByteArray → ByteArray → Option ((List (S41)) × Bool)
 | 0, _, _, _, _, _, _ => none
 | k + 1, x0, x4, x5, x8, x132000, x132001 => if x5 < (x0.size : Int) then (if x8 = true then (spec_ReadRule.j5 k x0 x4 x5 x8 true x132000 x132001) else (if 0 ≤ x5 then (spec_ReadRule.j5 k x0 x4 x5 x8 ((bt x0 x5) != 44) x132000 x132001) else (none))) else (spec_ReadRule.j5 k x0 x4 x5 x8 false x132000 x132001)
def spec_ReadRule.j5 : Nat → ByteArray → List (S41) → Int → Bool → Bool → ByteArray → ByteArray → Option ((List (S41)) × Bool)
 | 0, _, _, _, _, _, _, _ => none
 | k + 1, x0, x4, x5, x8, x61, x132000, x132001 => if x61 = true then (if 0 ≤ x5 then (if x5 < (x0.size : Int) then (if (bt x0 x5) = 39 then (spec_ReadRule.l2 k x0 x4 (wrap64 (x5 + 1)) (!x8) x132000 x132001) else (if x8 = true then (if x5 ≤ (wrap64 (x5 + 1)) then (if (wrap64 (x5 + 1)) ≤ (x0.size : Int) then (if x132001.size + (x0.extract (x5 : Int).toNat ((wrap64 (x5 + 1)) : Int).toNat).size ≤ 9223372036854775807 then (spec_ReadRule.l2 k x0 x4 (wrap64 (x5 + 1)) x8 x132000 (x132001 ++ (x0.extract (x5 : Int).toNat ((wrap64 (x5 + 1)) : Int).toNat))) else (none)) else (none)) else (none)) else (if (bt x0 x5) = 92 then (if (wrap64 (x5 + 1)) < (x0.size : Int) then (if 0 ≤ (wrap64 (x5 + 1)) then (if (bt x0 (wrap64 (x5 + 1))) = 39 then (if x132001.size + 1 ≤ 9223372036854775807 then (spec_ReadRule.l2 k x0 x4 (wrap64 ((wrap64 (x5 + 1)) + 1)) x8 x132000 (x132001 ++ (⟨#[39]⟩ : ByteArray))) else (none)) else (if x5 ≤ (wrap64 (x5 + 1)) then (if (wrap64 (x5 + 1)) ≤ (x0.size : Int) then (if x132001.size + (x0.extract (x5 : Int).toNat ((wrap64 (x5 + 1)) : Int).toNat).size ≤ 9223372036854775807 then (spec_ReadRule.l2 k x0 x4 (wrap64 (x5 + 1)) x8 x132000 (x132001 ++ (x0.extract (x5 : Int).toNat ((wrap64 (x5 + 1)) : Int).toNat))) else (none)) else (none)) else (none))) else (none)) else (if x5 ≤ (wrap64 (x5 + 1)) then (if (wrap64 (x5 + 1)) ≤ (x0.size : Int) then (if x132001.size + (x0.extract (x5 : Int).toNat ((wrap64 (x5 + 1)) : Int).toNat).size ≤ 9223372036854775807 then (spec_ReadRule.l2 k x0 x4 (wrap64 (x5 + 1)) x8 x132000 (x132001 ++ (x0.extract (x5 : Int).toNat ((wrap64 (x5 + 1)) : Int).toNat))) else (none)) else (none)) else (none))) else (if x5 ≤ (wrap64 (x5 + 1)) then (if (wrap64 (x5 + 1)) ≤ (x0.size : Int) then (if x132001.size + (x0.extract (x5 : Int).toNat ((wrap64 (x5 + 1)) : Int).toNat).size ≤ 9223372036854775807 then (spec_ReadRule.l2 k x0 x4 (wrap64 (x5 + 1)) x8 x132000 (x132001 ++ (x0.extract (x5 : Int).toNat ((wrap64 (x5 + 1)) : Int).toNat))) else (none)) else (none)) else (none))))) else (none)) else (none)) else (if x8 = true then (some (([] : List (S41)), false)) else (if x4.length < 4398046511104 then ((some (x4 ++ [(⟨x132000, x132001⟩ : S41)] : List (S41))).bind fun y132 => (if x5 < (x0.size : Int) then (if (wrap64 (x5 + 1)) = (x0.size : Int) then (some (([] : List (S41)), false)) else (spec_ReadRule.l0 k x0 y132 (wrap64 (x5 + 1)))) else (spec_ReadRule.l0 k x0 y132 x5))) else (none)))
def spec_ReadRule.l1 : Nat → ByteArray → List (S41) → Int → Int → Option ((List (S41)) × Bool)
 | 0, _, _, _, _ => none
 | k + 1, x0, x4, x5, x6 => if x5 < (x0.size : Int) then (if 0 ≤ x5 then (if (bt x0 x5) = 61 then (spec_ReadRule.j2 k x0 x4 x5 x6) else (if (bt x0 x5) = 44 then (spec_ReadRule.j2 k x0 x4 x5 x6) else (spec_ReadRule.l1 k x0 x4 (wrap64 (x5 + 1)) x6))) else (none)) else (spec_ReadRule.j2 k x0 x4 x5 x6)
end
def spec_ReadRule.f (k : Nat) (a0 : ByteArray) : Option ((List (S41)) × Bool) := spec_ReadRule.l0 k a0 ([] : List (S41)) 0
theorem spec_ReadRule.mono_l : ∀ k, (∀ y0 y1 y2, LeO (spec_ReadRule.l0 k y0 y1 y2) (spec_ReadRule.l0 (k + 1) y0 y1 y2)) ∧ (∀ y0 y1 y2 y3, LeO (spec_ReadRule.j2 k y0 y1 y2 y3) (spec_ReadRule.j2 (k + 1) y0 y1 y2 y3)) ∧ (∀ y0 y1 y2 y3 y4, LeO (spec_ReadRule.j3 k y0 y1 y2 y3 y4) (spec_ReadRule.j3 (k + 1) y0 y1 y2 y3 y4)) ∧ (∀ y0 y1 y2 y3 y4 y5, LeO (spec_ReadRule.l2 k y0 y1 y2 y3 y4 y5) (spec_ReadRule.l2 (k + 1) y0 y1 y2 y3 y4 y5)) ∧ (∀ y0 y1 y2 y3 y4 y5 y6, LeO (spec_ReadRule.j5 k y0 y1 y2 y3 y4 y5 y6) (spec_ReadRule.j5 (k + 1) y0 y1 y2 y3 y4 y5 y6)) ∧ (∀ y0 y1 y2 y3, LeO (spec_ReadRule.l1 k y0 y1 y2 y3) (spec_ReadRule.l1 (k + 1) y0 y1 y2 y3))
 | 0 => ⟨fun _ _ _ r h => by simp [spec_ReadRule.l0] at h, fun _ _ _ _ r h => by simp [spec_ReadRule.j2] at h, fun _ _ _ _ _ r h => by simp [spec_ReadRule.j3] at h, fun _ _ _ _ _ _ r h => by simp [spec_ReadRule.l2] at h, fun _ _ _ _ _ _ _ r h => by simp [spec_ReadRule.j5] at h, fun _ _ _ _ r h => by simp [spec_ReadRule.l1] at h⟩
 | k + 1 => by
  obtain ⟨ih0, ih1, ih2, ih3, ih4, ih5⟩ := spec_ReadRule.mono_l k
  refine ⟨?_, ?_, ?_, ?_, ?_, ?_⟩
  ·intro y0 y1 y2
   unfold spec_ReadRule.l0
   repeat' first
   | (with_reducible exact ih0 _ _ _)
   | (with_reducible exact ih1 _ _ _ _)
   | (with_reducible exact ih2 _ _ _ _ _)
   | (with_reducible exact ih3 _ _ _ _ _ _)
   | (with_reducible exact ih4 _ _ _ _ _ _ _)
   | (with_reducible exact ih5 _ _ _ _)
   | (with_reducible exact LeO.refl _)
   | (with_reducible exact LeO.none _)
   | (with_reducible refine LeO.ite ?_ ?_)
   | (with_reducible refine LeO.bind ?_ (fun _ => ?_))
   | exact ih0 _ _ _
   | exact ih1 _ _ _ _
   | exact ih2 _ _ _ _ _
   | exact ih3 _ _ _ _ _ _
   | exact ih4 _ _ _ _ _ _ _
   | exact ih5 _ _ _ _
   | exact LeO.none _
   | refine LeO.ite ?_ ?_
   | refine LeO.bind ?_ (fun _ => ?_)
  ·intro y0 y1 y2 y3
   unfold spec_ReadRule.j2
   repeat' first
   | (with_reducible exact ih0 _ _ _)
   | (with_reducible exact ih1 _ _ _ _)
   | (with_reducible exact ih2 _ _ _ _ _)
   | (with_reducible exact ih3 _ _ _ _ _ _)
   | (with_reducible exact ih4 _ _ _ _ _ _ _)
   | (with_reducible exact ih5 _ _ _ _)
   | (with_reducible exact LeO.refl _)
   | (with_reducible exact LeO.none _)
   | (with_reducible refine LeO.ite ?_ ?_)
   | (with_reducible refine LeO.bind ?_ (fun _ => ?_))
   | exact ih0 _ _ _
   | exact ih1 _ _ _ _
   | exact ih2 _ _ _ _ _
   | exact ih3 _ _ _ _ _ _
   | exact ih4 _ _ _ _ _ _ _
   | exact ih5 _ _ _ _
   | exact LeO.none _
   | refine LeO.ite ?_ ?_
   | refine LeO.bind ?_ (fun _ => ?_)
  ·intro y0 y1 y2 y3 y4
   unfold spec_ReadRule.j3
   repeat' first
   | (with_reducible exact ih0 _ _ _)
   | (with_reducible exact ih1 _ _ _ _)
   | (with_reducible exact ih2 _ _ _ _ _)
   | (with_reducible exact ih3 _ _ _ _ _ _)
   | (with_reducible exact ih4 _ _ _ _ _ _ _)
   | (with_reducible exact ih5 _ _ _ _)
   | (with_reducible exact LeO.refl _)
   | (with_reducible exact LeO.none _)
   | (with_reducible refine LeO.ite ?_ ?_)
   | (with_reducible refine LeO.bind ?_ (fun _ => ?_))
   | exact ih0 _ _ _
   | exact ih1 _ _ _ _
   | exact ih2 _ _ _ _ _
   | exact ih3 _ _ _ _ _ _
   | exact ih4 _ _ _ _ _ _ _
   | exact ih5 _ _ _ _
   | exact LeO.none _
   | refine LeO.ite ?_ ?_
   | refine LeO.bind ?_ (fun _ => ?_)
  ·intro y0 y1 y2 y3 y4 y5
   unfold spec_ReadRule.l2
   repeat' first
   | (with_reducible exact ih0 _ _ _)
   | (with_reducible exact ih1 _ _ _ _)
   | (with_reducible exact ih2 _ _ _ _ _)
   | (with_reducible exact ih3 _ _ _ _ _ _)
   | (with_reducible exact ih4 _ _ _ _ _ _ _)
   | (with_reducible exact ih5 _ _ _ _)
   | (with_reducible exact LeO.refl _)
   | (with_reducible exact LeO.none _)
   | (with_reducible refine LeO.ite ?_ ?_)
   | (with_reducible refine LeO.bind ?_ (fun _ => ?_))
   | exact ih0 _ _ _
   | exact ih1 _ _ _ _
   | exact ih2 _ _ _ _ _
   | exact ih3 _ _ _ _ _ _
   | exact ih4 _ _ _ _ _ _ _
   | exact ih5 _ _ _ _
   | exact LeO.none _
   | refine LeO.ite ?_ ?_
   | refine LeO.bind ?_ (fun _ => ?_)
  ·intro y0 y1 y2 y3 y4 y5 y6
   unfold spec_ReadRule.j5
   repeat' first
   | (with_reducible exact ih0 _ _ _)
   | (with_reducible exact ih1 _ _ _ _)
   | (with_reducible exact ih2 _ _ _ _ _)
   | (with_reducible exact ih3 _ _ _ _ _ _)
   | (with_reducible exact ih4 _ _ _ _ _ _ _)
   | (with_reducible exact ih5 _ _ _ _)
   | (with_reducible exact LeO.refl _)
   | (with_reducible exact LeO.none _)
   | (with_reducible refine LeO.ite ?_ ?_)
   | (with_reducible refine LeO.bind ?_ (fun _ => ?_))
   | exact ih0 _ _ _
   | exact ih1 _ _ _ _
   | exact ih2 _ _ _ _ _
   | exact ih3 _ _ _ _ _ _
   | exact ih4 _ _ _ _ _ _ _
   | exact ih5 _ _ _ _
   | exact LeO.none _
   | refine LeO.ite ?_ ?_
   | refine LeO.bind ?_ (fun _ => ?_)
  ·intro y0 y1 y2 y3
   unfold spec_ReadRule.l1
   repeat' first
   | (with_reducible exact ih0 _ _ _)
   | (with_reducible exact ih1 _ _ _ _)
   | (with_reducible exact ih2 _ _ _ _ _)
   | (with_reducible exact ih3 _ _ _ _ _ _)
   | (with_reducible exact ih4 _ _ _ _ _ _ _)
   | (with_reducible exact ih5 _ _ _ _)
   | (with_reducible exact LeO.refl _)
   | (with_reducible exact LeO.none _)
   | (with_reducible refine LeO.ite ?_ ?_)
   | (with_reducible refine LeO.bind ?_ (fun _ => ?_))
   | exact ih0 _ _ _
   | exact ih1 _ _ _ _
   | exact ih2 _ _ _ _ _
   | exact ih3 _ _ _ _ _ _
   | exact ih4 _ _ _ _ _ _ _
   | exact ih5 _ _ _ _
   | exact LeO.none _
   | refine LeO.ite ?_ ?_
   | refine LeO.bind ?_ (fun _ => ?_)
theorem spec_ReadRule.mono : ∀ a0 k, LeO (spec_ReadRule.f k a0) (spec_ReadRule.f (k + 1) a0) := by
 intro a0 k
 obtain ⟨ih0, ih1, ih2, ih3, ih4, ih5⟩ := spec_ReadRule.mono_l k
 unfold spec_ReadRule.f
 repeat' first
   | (with_reducible exact ih0 _ _ _)
   | (with_reducible exact ih1 _ _ _ _)
   | (with_reducible exact ih2 _ _ _ _ _)
   | (with_reducible exact ih3 _ _ _ _ _ _)
   | (with_reducible exact ih4 _ _ _ _ _ _ _)
   | (with_reducible exact ih5 _ _ _ _)
   | (with_reducible exact LeO.refl _)
   | (with_reducible exact LeO.none _)
   | (with_reducible refine LeO.ite ?_ ?_)
   | (with_reducible refine LeO.bind ?_ (fun _ => ?_))
   | exact ih0 _ _ _
   | exact ih1 _ _ _ _
   | exact ih2 _ _ _ _ _
   | exact ih3 _ _ _ _ _ _
   | exact ih4 _ _ _ _ _ _ _
   | exact ih5 _ _ _ _
   | exact LeO.none _
   | refine LeO.ite ?_ ?_
   | refine LeO.bind ?_ (fun _ => ?_)
def spec_ReadRule.T13 : Bool × List (List Nat × List Nat) := (true, [([], []), ([0], [0]), ([], []), ([], []), ([], []), ([4], [4]), ([2, 3, 5], [2, 3, 5]), ([1, 6], [1, 6]), ([0, 1, 2, 3, 4, 5, 6, 7], []), ([8, 7, 0, 1, 2, 3, 4, 5, 6, 7], [7, 8])])
def spec_ReadRule.B13 : List Nat := [0, 1, 0, 0, 0, 16, 60, 127, 255, 511]
theorem spec_ReadRule.tab13 : rtab .any (opsOf Tryd.f9 13) = spec_ReadRule.T13 := by kernel_rfl
theorem spec_ReadRule.bits13 : waitsOk spec_ReadRule.T13.2 spec_ReadRule.B13 = true := by kernel_rfl
set_option maxHeartbeats 8000000 in
set_option maxRecDepth 100000 in
theorem spec_ReadRule.calls (k : Nat) (a0 : ByteArray) (r1 : List (S41)) (r2 : Bool) (w : World) (h : spec_ReadRule.f k a0 = some (r1, r2)) :
  Calls Tryd.prog 9 #[.string a0] w fun e w' => ∃ v0_ : Value, e = .returned (.tuple #[v0_, .bool r2]) ∧ Kd.R k41 41 w' w.heap.size (fun _ => True) v0_ r1 ∧ Below w.heap.size w w' := by
 have hu41 := Tryd.underlying41
 have HB := Aside0.mk (Below.refl w.heap.size w)
 have H : (spec_ReadRule.l0 k a0 ([] : List (S41)) 0) = some (r1, r2) := h
 clear h
 have H' := Aside0.mk H
 clear H
 go_enter Tryd.func9, Tryd.ntmps9
 go_wp2
 go_loopg [4, 5] k (fun kq v4 v5 w' => ∃ (x4_1 : List (S41)) (x5_1 : Int), v5 = .int .i64 x5_1 ∧ Aside0 (spec_ReadRule.l0 kq a0 x4_1 x5_1 = some (r1, r2)) ∧ Aside0 (kq ≤ k) ∧ Aside0 (Kd.R k41 41 w' w.heap.size (fun _ => True) v4 x4_1) ∧ Aside0 (Below w.heap.size w w'))
 case atStart => exact ⟨(([] : List (S41))), (0), (by first | rfl | (simp; done) | (simp [*]; done)), H', ⟨Nat.le_refl _⟩, ⟨by first | exact Kd.R_nil _ _ _ _ _ | exact Kd.N_nil _ _ _ _ _ | exact Kd.V_nil _ _ _ _ _ | exact Kd.Q_nil _ _ _ _ _ | exact Kd.S_nil _ _ _ _ _⟩, ⟨by repeat (first | (with_reducible first | exact HB.out | apply below_alloc | apply pw_below_drewN | apply below_drew1) | exact HB.out)⟩⟩
 case round =>
  clear H'
  obtain ⟨x4_1, x5_1, rfl, HA, HK1, HO_4, HB⟩ := hrel
  cases gk with
  | zero => exact absurd HA.out (by simp [spec_ReadRule.l0])
  | succ k1 =>
   have H := HA.out
   clear HA
   simp only [spec_ReadRule.l0] at H
   by_cases c2 : x5_1 < (a0.size : Int)
   ·rw [if_pos c2] at H
    have c2b0 : decide (x5_1 < (a0.size : Int)) = true := decide_eq_true c2
    clear c2
    have HC3 := Aside0.mk H
    clear H
    go_upto_block 2 with (fail)
    go_cut [5] (fun v5 wc => ∃ (kq : Nat) (x5_2 : Int), v5 = .int .i64 x5_2 ∧ Aside0 (spec_ReadRule.j2 kq a0 x4_1 x5_2 x5_1 = some (r1, r2)) ∧ Aside0 (kq ≤ k1) ∧ Aside0 (Kd.R k41 41 wc w.heap.size (fun _ => True) u4 x4_1) ∧ Aside0 (Below w.heap.size w wc))
    case first =>
     have H := HC3.out
     clear HC3
     have H' := Aside0.mk H
     clear H
     go_wp2
     go_loopg [5] k1 (fun kq v5 w' => ∃ (x5_2 : Int), v5 = .int .i64 x5_2 ∧ Aside0 (spec_ReadRule.l1 kq a0 x4_1 x5_2 x5_1 = some (r1, r2)) ∧ Aside0 (kq ≤ k1) ∧ Aside0 (Kd.R k41 41 w' w.heap.size (fun _ => True) u4 x4_1) ∧ Aside0 (Below w.heap.size w w'))
     case atStart => exact ⟨(x5_1), (by first | rfl | (simp; done) | (simp [*]; done)), H', ⟨Nat.le_refl _⟩, ⟨by (with_reducible repeat (first | apply Kd.R_alloc | apply Kd.R_drewN | apply Kd.R_drew)); exact HO_4.out⟩, ⟨by repeat (first | (with_reducible first | exact HB.out | apply below_alloc | apply pw_below_drewN | apply below_drew1) | exact HB.out)⟩⟩
     case round =>
      clear H'
      try clear c2
      try clear c2b0
      try clear p2
      obtain ⟨x5_2, rfl, HA, HK2, HO_4, HB⟩ := hrel
      cases gk with
      | zero => exact absurd HA.out (by simp [spec_ReadRule.l1])
      | succ k2 =>
       have H := HA.out
       clear HA
       simp only [spec_ReadRule.l1] at H
       by_cases c4 : x5_2 < (a0.size : Int)
       ·rw [if_pos c4] at H
        have c4b0 : decide (x5_2 < (a0.size : Int)) = true := decide_eq_true c4
        clear c4
        (first | rw [c4b0] | (simp only [i64_w, i32_w]; rw [c4b0]) | skip)
        by_cases c5 : 0 ≤ x5_2
        ·rw [if_pos c5] at H
         have c5b0 : decide (0 ≤ x5_2) = true := decide_eq_true c5
         clear c5
         by_cases c7 : (bt a0 x5_2) = 61
         ·rw [if_pos c7] at H
          have c7b0 : ((bt a0 x5_2) == 61) = true := beq_iff_eq.mpr c7
          have c7b1 : ((bt a0 x5_2) != 61) = false := bne_eq_false_iff_eq.mpr c7
          clear c7
          have H' := Aside0.mk H
          clear H
          have p6 : 0 ≤ (x5_2 : Int) := of_decide_eq_true (by first | (with_reducible assumption) | assumption)
          have q6 : x5_2 < (a0.size : Int) := of_decide_eq_true (by first | (with_reducible assumption) | assumption)
          have hx6 := bt_at a0 x5_2
          replace p6 := eq_true p6
          replace q6 := eq_true q6
          go_wp2
          go_meet
          case rel => exact ⟨_, (x5_2), (by first | rfl | (simp; done) | (simp [*]; done)), H', ⟨by have := HK1.out; have := HK2.out; first | omega | exact Nat.le_refl _⟩, ⟨by (with_reducible repeat (first | apply Kd.R_alloc | apply Kd.R_drewN | apply Kd.R_drew)); exact HO_4.out⟩, ⟨by repeat (first | (with_reducible first | exact HB.out | apply below_alloc | apply pw_below_drewN | apply below_drew1) | exact HB.out)⟩⟩
         ·rw [if_neg c7] at H
          have c7b0 : ((bt a0 x5_2) == 61) = false := beq_eq_false_iff_ne.mpr c7
          have c7b1 : ((bt a0 x5_2) != 61) = true := bne_iff_ne.mpr c7
          by_cases c9 : (bt a0 x5_2) = 44
          ·rw [if_pos c9] at H
           have c9b0 : ((bt a0 x5_2) == 44) = true := beq_iff_eq.mpr c9
           have c9b1 : ((bt a0 x5_2) != 44) = false := bne_eq_false_iff_eq.mpr c9
           clear c9
           have H' := Aside0.mk H
           clear H
           have p6 : 0 ≤ (x5_2 : Int) := of_decide_eq_true (by first | (with_reducible assumption) | assumption)
           have q6 : x5_2 < (a0.size : Int) := of_decide_eq_true (by first | (with_reducible assumption) | assumption)
           have hx6 := bt_at a0 x5_2
           replace p6 := eq_true p6
           replace q6 := eq_true q6
           have p8 : 0 ≤ (x5_2 : Int) := of_decide_eq_true (by first | (with_reducible assumption) | assumption)
           have q8 : x5_2 < (a0.size : Int) := of_decide_eq_true (by first | (with_reducible assumption) | assumption)
           have hx8 := bt_at a0 x5_2
           replace p8 := eq_true p8
           replace q8 := eq_true q8
           go_wp2
           go_meet
           case rel => exact ⟨_, (x5_2), (by first | rfl | (simp; done) | (simp [*]; done)), H', ⟨by have := HK1.out; have := HK2.out; first | omega | exact Nat.le_refl _⟩, ⟨by (with_reducible repeat (first | apply Kd.R_alloc | apply Kd.R_drewN | apply Kd.R_drew)); exact HO_4.out⟩, ⟨by repeat (first | (with_reducible first | exact HB.out | apply below_alloc | apply pw_below_drewN | apply below_drew1) | exact HB.out)⟩⟩
          ·rw [if_neg c9] at H
           have c9b0 : ((bt a0 x5_2) == 44) = false := beq_eq_false_iff_ne.mpr c9
           have c9b1 : ((bt a0 x5_2) != 44) = true := bne_iff_ne.mpr c9
           have H' := Aside0.mk H
           clear H
           have p6 : 0 ≤ (x5_2 : Int) := of_decide_eq_true (by first | (with_reducible assumption) | assumption)
           have q6 : x5_2 < (a0.size : Int) := of_decide_eq_true (by first | (with_reducible assumption) | assumption)
           have hx6 := bt_at a0 x5_2
           replace p6 := eq_true p6
           replace q6 := eq_true q6
           have p8 : 0 ≤ (x5_2 : Int) := of_decide_eq_true (by first | (with_reducible assumption) | assumption)
           have q8 : x5_2 < (a0.size : Int) := of_decide_eq_true (by first | (with_reducible assumption) | assumption)
           have hx8 := bt_at a0 x5_2
           replace p8 := eq_true p8
           replace q8 := eq_true q8
           go_wp2
           go_roundg k2
           case measure => have := HK1.out; have := HK2.out; omega
           case rel => exact ⟨(wrap64 (x5_2 + 1)), (by first | rfl | (simp; done) | (simp [*]; done)), H', ⟨by have := HK1.out; have := HK2.out; omega⟩, ⟨by (with_reducible repeat (first | apply Kd.R_alloc | apply Kd.R_drewN | apply Kd.R_drew)); exact HO_4.out⟩, ⟨by repeat (first | (with_reducible first | exact HB.out | apply below_alloc | apply pw_below_drewN | apply below_drew1) | exact HB.out)⟩⟩
        ·rw [if_neg c5] at H
         exact absurd H (by simp)
       ·rw [if_neg c4] at H
        have c4b0 : decide (x5_2 < (a0.size : Int)) = false := decide_eq_false c4
        clear c4
        (first | rw [c4b0] | (simp only [i64_w, i32_w]; rw [c4b0]) | skip)
        have H' := Aside0.mk H
        clear H
        go_wp2
        go_meet
        case rel => exact ⟨_, (x5_2), (by first | rfl | (simp; done) | (simp [*]; done)), H', ⟨by have := HK1.out; have := HK2.out; first | omega | exact Nat.le_refl _⟩, ⟨by (with_reducible repeat (first | apply Kd.R_alloc | apply Kd.R_drewN | apply Kd.R_drew)); exact HO_4.out⟩, ⟨by repeat (first | (with_reducible first | exact HB.out | apply below_alloc | apply pw_below_drewN | apply below_drew1) | exact HB.out)⟩⟩
    case rest =>
     clear HC3
     try clear c2
     try clear c2b0
     try clear p2
     try clear c4
     try clear c4b0
     try clear c5
     try clear c5b0
     try clear p6
     try clear q6
     try clear hx6
     try clear c7
     try clear c7b0
     try clear c7b1
     try clear p8
     try clear q8
     try clear hx8
     try clear c9
     try clear c9b0
     try clear c9b1
     try clear p2
     try clear p6
     try clear p8
     try clear q6
     try clear q8
     obtain ⟨kq, x5_2, rfl, HA, HJ2, HO_4, HB⟩ := hcut
     cases kq with
     | zero => exact absurd HA.out (by simp [spec_ReadRule.j2])
     | succ kj2 =>
      have H := HA.out
      clear HA
      simp only [spec_ReadRule.j2] at H
      have HC10 := Aside0.mk H
      clear H
      go_upto_region 7 with (fail)
      go_cut [41] (fun v41 wc => ∃ (kq : Nat) (x41_9 : Bool), v41 = .bool x41_9 ∧ Aside0 (spec_ReadRule.j3 kq a0 x4_1 x5_2 x5_1 x41_9 = some (r1, r2)) ∧ Aside0 (kq ≤ kj2) ∧ Aside0 (Kd.R k41 41 wc w.heap.size (fun _ => True) u4 x4_1) ∧ Aside0 (Below w.heap.size w wc))
      case first =>
       have H := HC10.out
       clear HC10
       by_cases c11 : x5_2 = (a0.size : Int)
       ·rw [if_pos c11] at H
        have c11b0 : (x5_2 == (a0.size : Int)) = true := beq_iff_eq.mpr c11
        have c11b1 : (x5_2 != (a0.size : Int)) = false := bne_eq_false_iff_eq.mpr c11
        clear c11
        (first | rw [c11b0] | (simp only [i64_w, i32_w]; rw [c11b0]) | skip)
        have H' := Aside0.mk H
        clear H
        go_wp2
        go_meet
        case rel => exact ⟨_, (true), (by first | rfl | (simp; done) | (simp [*]; done)), H', ⟨by have := HK1.out; have := HJ2.out; first | omega | exact Nat.le_refl _⟩, ⟨by (with_reducible repeat (first | apply Kd.R_alloc | apply Kd.R_drewN | apply Kd.R_drew)); exact HO_4.out⟩, ⟨by repeat (first | (with_reducible first | exact HB.out | apply below_alloc | apply pw_below_drewN | apply below_drew1) | exact HB.out)⟩⟩
       ·rw [if_neg c11] at H
        have c11b0 : (x5_2 == (a0.size : Int)) = false := beq_eq_false_iff_ne.mpr c11
        have c11b1 : (x5_2 != (a0.size : Int)) = true := bne_iff_ne.mpr c11
        (first | rw [c11b0] | (simp only [i64_w, i32_w]; rw [c11b0]) | skip)
        by_cases c12 : 0 ≤ x5_2
        ·rw [if_pos c12] at H
         have c12b0 : decide (0 ≤ x5_2) = true := decide_eq_true c12
         clear c12
         by_cases c13 : x5_2 < (a0.size : Int)
         ·rw [if_pos c13] at H
          have c13b0 : decide (x5_2 < (a0.size : Int)) = true := decide_eq_true c13
          clear c13
          have H' := Aside0.mk H
          clear H
          have p14 : 0 ≤ (x5_2 : Int) := of_decide_eq_true (by first | (with_reducible assumption) | assumption)
          have q14 : x5_2 < (a0.size : Int) := of_decide_eq_true (by first | (with_reducible assumption) | assumption)
          have hx14 := bt_at a0 x5_2
          replace p14 := eq_true p14
          replace q14 := eq_true q14
          go_wp2
          go_meet
          case rel => exact ⟨_, (((bt a0 x5_2) == 44)), (by first | rfl | (simp; done) | (simp [*]; done)), H', ⟨by have := HK1.out; have := HJ2.out; first | omega | exact Nat.le_refl _⟩, ⟨by (with_reducible repeat (first | apply Kd.R_alloc | apply Kd.R_drewN | apply Kd.R_drew)); exact HO_4.out⟩, ⟨by repeat (first | (with_reducible first | exact HB.out | apply below_alloc | apply pw_below_drewN | apply below_drew1) | exact HB.out)⟩⟩
         ·rw [if_neg c13] at H
          exact absurd H (by simp)
        ·rw [if_neg c12] at H
         exact absurd H (by simp)
      case rest =>
       clear HC10
       try clear c1
       try clear p1
       try clear q1
       try clear hx1
       try clear c2
       try clear c2b0
       try clear p2
       try clear c4
       try clear c4b0
       try clear c5
       try clear c5b0
       try clear p6
       try clear q6
       try clear hx6
       try clear c7
       try clear c7b0
       try clear c7b1
       try clear p8
       try clear q8
       try clear hx8
       try clear c9
       try clear c9b0
       try clear c9b1
       try clear c11
       try clear c11b0
       try clear c11b1
       try clear c12
       try clear c12b0
       try clear c13
       try clear c13b0
       try clear p14
       try clear q14
       try clear hx14
       try clear p14
       try clear p2
       try clear p6
       try clear p8
       try clear q14
       try clear q6
       try clear q8
       obtain ⟨kq, x41_9, rfl, HA, HJ9, HO_4, HB⟩ := hcut
       cases kq with
       | zero => exact absurd HA.out (by simp [spec_ReadRule.j3])
       | succ kj9 =>
        have H := HA.out
        clear HA
        simp only [spec_ReadRule.j3] at H
        by_cases c15 : x41_9 = true
        ·subst c15
         have H1 : (some (([] : List (S41)), false)) = some (r1, r2) := by rw [if_pos rfl] at H; exact H
         clear H
         have H := H1
         clear H1
         simp only [Option.some.injEq, Prod.mk.injEq] at H
         obtain ⟨rfl, rfl⟩ := H
         go_wp2
         go_ret2
         exact ⟨_, by first | rfl | (simp [errW_none, errW_some] <;> rfl) | (simp [*, errW_none, errW_some] <;> rfl), by first | exact Kd.R_nil _ _ _ _ _ | exact Kd.N_nil _ _ _ _ _ | exact Kd.V_nil _ _ _ _ _ | exact Kd.Q_nil _ _ _ _ _ | exact Kd.S_nil _ _ _ _ _, by repeat (first | (with_reducible first | exact HB.out | apply below_alloc | apply pw_below_drewN | apply below_drew1) | exact HB.out)⟩
        ·replace c15 := Bool.eq_false_iff.mpr c15
         subst c15
         have H1 : (if 0 ≤ x5_1 then (if x5_1 ≤ x5_2 then (if x5_2 ≤ (a0.size : Int) then (spec_ReadRule.l2 kj9 a0 x4_1 (wrap64 (x5_2 + 1)) false (a0.extract (x5_1 : Int).toNat (x5_2 : Int).toNat) (⟨#[]⟩ : ByteArray)) else (none)) else (none)) else (none)) = some (r1, r2) := by rw [if_neg (show ¬ (false = true) by decide)] at H; exact H
         clear H
         have H := H1
         clear H1
         by_cases c16 : 0 ≤ x5_1
         ·rw [if_pos c16] at H
          have c16b0 := eq_true c16
          have c16b1 : decide (0 ≤ x5_1) = true := decide_eq_true c16
          clear c16
          by_cases c17 : x5_1 ≤ x5_2
          ·rw [if_pos c17] at H
           have c17b0 := eq_true c17
           have c17b1 : decide (x5_1 ≤ x5_2) = true := decide_eq_true c17
           clear c17
           by_cases c18 : x5_2 ≤ (a0.size : Int)
           ·rw [if_pos c18] at H
            have c18b0 := eq_true c18
            have c18b1 : decide (x5_2 ≤ (a0.size : Int)) = true := decide_eq_true c18
            clear c18
            have H' := Aside0.mk H
            clear H
            go_wp2_with (first | ((with_reducible refine gate_dst (N := 7) rfl ?_); (try (refine gate_guard (by rfl) ?_; dsimp only)); refine box_event ?hg (N := 7) ?hd (cs := #[.string (⟨#[]⟩ : ByteArray), .string (⟨#[]⟩ : ByteArray)]) (t := 41) ?hr ?_; (case hd => rfl); (case hg => rfl); (case hr => first | (go_simp; done) | (go_simp; rfl)); intro gb131 hg w19 hbox hb; have n0_ := Aside0.mk (Kd.R_below (Kd.R_elderB (by (with_reducible repeat (first | apply Kd.R_alloc | apply Kd.R_drewN | apply Kd.R_drew)); exact HO_4.out) gb131 (Nat.le_of_eq hg.symm)) hb); have n1_ := Aside0.mk (below_step (by repeat (first | (with_reducible first | exact HB.out | apply below_alloc | apply pw_below_drewN | apply below_drew1) | exact HB.out)) hb); have n2_ := Aside0.mk (hbox); have n3_ := Aside0.mk ((by rw [hg]; exact (below_size (by repeat (first | (with_reducible first | exact HB.out | apply below_alloc | apply pw_below_drewN | apply below_drew1) | exact HB.out))) : w.heap.size ≤ gb131)); have n4_ := Aside0.mk ((by rw [hg]; exact (below_size (by repeat (first | (with_reducible first | exact HB.out | apply below_alloc | apply pw_below_drewN | apply below_drew1) | exact HB.out))) : w.heap.size ≤ gb131)); clear HO_4; clear HB; have HO_4 := n0_; have HB := n1_; have BK131 := n2_; have GW131 := n3_; have GE131 := n4_; clear n0_ n1_ n2_ n3_ n4_; clear hb hbox hg; have hcz20_0 : w19.cell? ⟨gb131, 0, none⟩ = some (.string (⟨#[]⟩ : ByteArray)) := (blk_cell BK131.out 0).trans rfl; have hcz20_1 : w19.cell? ⟨gb131, 1, none⟩ = some (.string (⟨#[]⟩ : ByteArray)) := (blk_cell BK131.out 1).trans rfl; have hfz20_0 := blk_frozen BK131.out 0; have hfz20_1 := blk_frozen BK131.out 1))
            go_loopg [5, 8] kj9 (fun kq v5 v8 w' => ∃ (x5_4 : Int) (x8_4 : Bool) (x132001_4 : ByteArray), v5 = .int .i64 x5_4 ∧ v8 = .bool x8_4 ∧ Aside0 (spec_ReadRule.l2 kq a0 x4_1 x5_4 x8_4 (a0.extract (x5_1 : Int).toNat (x5_2 : Int).toNat) x132001_4 = some (r1, r2)) ∧ Aside0 (kq ≤ kj9) ∧ Aside0 (Kd.R k41 41 w' w.heap.size (fun k_ => k_ ≠ gb131) u4 x4_1) ∧ Aside0 (w'.heap[gb131]? = some (.cells #[.string (a0.extract (x5_1 : Int).toNat (x5_2 : Int).toNat), .string x132001_4] 41 (0, 0))) ∧ Aside0 (Below w.heap.size w w'))
            case atStart => exact ⟨(wrap64 (x5_2 + 1)), (false), ((⟨#[]⟩ : ByteArray)), (by first | rfl | (simp; done) | (simp [*]; done)), (by first | rfl | (simp; done) | (simp [*]; done)), H', ⟨Nat.le_refl _⟩, ⟨by (with_reducible repeat (first | apply Kd.R_alloc | apply Kd.R_drewN | apply Kd.R_drew)); exact Kd.R_mono (Kd.R_far (p := ⟨gb131, 1, none⟩) (Kd.R_far (p := ⟨gb131, 0, none⟩) (Kd.R_mono HO_4.out (fun k_ hk => (⟨hk, hk.2⟩ : _ ∧ k_ ≠ gb131))) (fun _ hk => hk.2) (.string (a0.extract (x5_1 : Int).toNat (x5_2 : Int).toNat))) (fun _ hk => hk.2) (.string (⟨#[]⟩ : ByteArray))) (fun _ hk => hk.1.2)⟩, ⟨by (with_reducible repeat (first | refine blk_drewN ?_ _ | refine blk_drew ?_ | refine blk_alloc ?_ _)); refine blk_put (cs := #[.string (a0.extract (x5_1 : Int).toNat (x5_2 : Int).toNat), .string (⟨#[]⟩ : ByteArray)]) ?_ 1 _ rfl; (with_reducible repeat (first | refine blk_drewN ?_ _ | refine blk_drew ?_ | refine blk_alloc ?_ _)); refine blk_put (cs := #[.string (⟨#[]⟩ : ByteArray), .string (⟨#[]⟩ : ByteArray)]) ?_ 0 _ rfl; (with_reducible repeat (first | refine blk_drewN ?_ _ | refine blk_drew ?_ | refine blk_alloc ?_ _)); exact BK131.out⟩, ⟨by repeat (first | (with_reducible first | exact HB.out | apply below_alloc | apply pw_below_drewN | apply below_drew1 | refine below_set ?_ GE131.out) | exact HB.out)⟩⟩
            case round =>
             clear H'
             try clear c1
             try clear p1
             try clear q1
             try clear hx1
             try clear c2
             try clear c2b0
             try clear p2
             try clear c4
             try clear c4b0
             try clear c5
             try clear c5b0
             try clear p6
             try clear q6
             try clear hx6
             try clear c7
             try clear c7b0
             try clear c7b1
             try clear p8
             try clear q8
             try clear hx8
             try clear c9
             try clear c9b0
             try clear c9b1
             try clear c11
             try clear c11b0
             try clear c11b1
             try clear c12
             try clear c12b0
             try clear c13
             try clear c13b0
             try clear p14
             try clear q14
             try clear hx14
             try clear c15
             try clear c16
             try clear c16b0
             try clear c16b1
             try clear c17
             try clear c17b0
             try clear c17b1
             try clear c18
             try clear c18b0
             try clear c18b1
             try clear hcz20_0
             try clear hcz20_1
             try clear hfz20_0
             try clear hfz20_1
             try clear p1
             try clear p14
             try clear p2
             try clear p6
             try clear p8
             try clear q1
             try clear q14
             try clear q6
             try clear q8
             obtain ⟨x5_4, x8_4, x132001_4, rfl, rfl, HA, HK4, HO_4, BK131, HB⟩ := hrel
             cases gk with
             | zero => exact absurd HA.out (by simp [spec_ReadRule.l2])
             | succ k4 =>
              have H := HA.out
              clear HA
              simp only [spec_ReadRule.l2] at H
              have HC21 := Aside0.mk H
              clear H
              go_upto_region 12 with (fail)
              go_cut [61] (fun v61 wc => ∃ (kq : Nat) (x61_20 : Bool), v61 = .bool x61_20 ∧ Aside0 (spec_ReadRule.j5 kq a0 x4_1 x5_4 x8_4 x61_20 (a0.extract (x5_1 : Int).toNat (x5_2 : Int).toNat) x132001_4 = some (r1, r2)) ∧ Aside0 (kq ≤ k4) ∧ Aside0 (Kd.R k41 41 wc w.heap.size (fun k_ => k_ ≠ gb131) u4 x4_1) ∧ Aside0 (wc.heap[gb131]? = some (.cells #[.string (a0.extract (x5_1 : Int).toNat (x5_2 : Int).toNat), .string x132001_4] 41 (0, 0))) ∧ Aside0 (Below w.heap.size w wc))
              case first =>
               have H := HC21.out
               clear HC21
               by_cases c22 : x5_4 < (a0.size : Int)
               ·rw [if_pos c22] at H
                have c22b0 : decide (x5_4 < (a0.size : Int)) = true := decide_eq_true c22
                clear c22
                (first | rw [c22b0] | (simp only [i64_w, i32_w]; rw [c22b0]) | skip)
                by_cases c23 : x8_4 = true
                ·subst c23
                 have H1 : (spec_ReadRule.j5 k4 a0 x4_1 x5_4 true true (a0.extract (x5_1 : Int).toNat (x5_2 : Int).toNat) x132001_4) = some (r1, r2) := by rw [if_pos rfl] at H; exact H
                 clear H
                 have H := H1
                 clear H1
                 have H' := Aside0.mk H
                 clear H
                 go_wp2
                 go_meet
                 case rel => exact ⟨_, (true), (by first | rfl | (simp; done) | (simp [*]; done)), H', ⟨by have := HK1.out; have := HJ2.out; have := HJ9.out; have := HK4.out; first | omega | exact Nat.le_refl _⟩, ⟨by (with_reducible repeat (first | apply Kd.R_alloc | apply Kd.R_drewN | apply Kd.R_drew)); exact HO_4.out⟩, ⟨by (with_reducible repeat (first | refine blk_drewN ?_ _ | refine blk_drew ?_ | refine blk_alloc ?_ _)); exact BK131.out⟩, ⟨by repeat (first | (with_reducible first | exact HB.out | apply below_alloc | apply pw_below_drewN | apply below_drew1 | refine below_set ?_ GE131.out) | exact HB.out)⟩⟩
                ·replace c23 := Bool.eq_false_iff.mpr c23
                 subst c23
                 have H1 : (if 0 ≤ x5_4 then (spec_ReadRule.j5 k4 a0 x4_1 x5_4 false ((bt a0 x5_4) != 44) (a0.extract (x5_1 : Int).toNat (x5_2 : Int).toNat) x132001_4) else (none)) = some (r1, r2) := by rw [if_neg (show ¬ (false = true) by decide)] at H; exact H
                 clear H
                 have H := H1
                 clear H1
                 by_cases c24 : 0 ≤ x5_4
                 ·rw [if_pos c24] at H
                  have c24b0 : decide (0 ≤ x5_4) = true := decide_eq_true c24
                  clear c24
                  have H' := Aside0.mk H
                  clear H
                  have p25 : 0 ≤ (x5_4 : Int) := of_decide_eq_true (by first | (with_reducible assumption) | assumption)
                  have q25 : x5_4 < (a0.size : Int) := of_decide_eq_true (by first | (with_reducible assumption) | assumption)
                  have hx25 := bt_at a0 x5_4
                  replace p25 := eq_true p25
                  replace q25 := eq_true q25
                  go_wp2
                  go_meet
                  case rel => exact ⟨_, (((bt a0 x5_4) != 44)), (by first | rfl | (simp; done) | (simp [*]; done)), H', ⟨by have := HK1.out; have := HJ2.out; have := HJ9.out; have := HK4.out; first | omega | exact Nat.le_refl _⟩, ⟨by (with_reducible repeat (first | apply Kd.R_alloc | apply Kd.R_drewN | apply Kd.R_drew)); exact HO_4.out⟩, ⟨by (with_reducible repeat (first | refine blk_drewN ?_ _ | refine blk_drew ?_ | refine blk_alloc ?_ _)); exact BK131.out⟩, ⟨by repeat (first | (with_reducible first | exact HB.out | apply below_alloc | apply pw_below_drewN | apply below_drew1 | refine below_set ?_ GE131.out) | exact HB.out)⟩⟩
                 ·rw [if_neg c24] at H
                  exact absurd H (by simp)
               ·rw [if_neg c22] at H
                have c22b0 : decide (x5_4 < (a0.size : Int)) = false := decide_eq_false c22
                clear c22
                (first | rw [c22b0] | (simp only [i64_w, i32_w]; rw [c22b0]) | skip)
                have H' := Aside0.mk H
                clear H
                go_wp2
                go_meet
                case rel => exact ⟨_, (false), (by first | rfl | (simp; done) | (simp [*]; done)), H', ⟨by have := HK1.out; have := HJ2.out; have := HJ9.out; have := HK4.out; first | omega | exact Nat.le_refl _⟩, ⟨by (with_reducible repeat (first | apply Kd.R_alloc | apply Kd.R_drewN | apply Kd.R_drew)); exact HO_4.out⟩, ⟨by (with_reducible repeat (first | refine blk_drewN ?_ _ | refine blk_drew ?_ | refine blk_alloc ?_ _)); exact BK131.out⟩, ⟨by repeat (first | (with_reducible first | exact HB.out | apply below_alloc | apply pw_below_drewN | apply below_drew1 | refine below_set ?_ GE131.out) | exact HB.out)⟩⟩
              case rest =>
               clear HC21
               try clear c1
               try clear p1
               try clear q1
               try clear hx1
               try clear c2
               try clear c2b0
               try clear p2
               try clear q2
               try clear hx2
               try clear c4
               try clear c4b0
               try clear c5
               try clear c5b0
               try clear p6
               try clear q6
               try clear hx6
               try clear c7
               try clear c7b0
               try clear c7b1
               try clear p8
               try clear q8
               try clear hx8
               try clear c9
               try clear c9b0
               try clear c9b1
               try clear c11
               try clear c11b0
               try clear c11b1
               try clear c12
               try clear c12b0
               try clear c13
               try clear c13b0
               try clear p14
               try clear q14
               try clear hx14
               try clear c15
               try clear c16
               try clear c16b0
               try clear c16b1
               try clear c17
               try clear c17b0
               try clear c17b1
               try clear c18
               try clear c18b0
               try clear c18b1
               try clear c22
               try clear c22b0
               try clear c23
               try clear c24
               try clear c24b0
               try clear p25
               try clear q25
               try clear hx25
               try clear hcz20_0
               try clear hcz20_1
               try clear hfz20_0
               try clear hfz20_1
               try clear p1
               try clear p14
               try clear p2
               try clear p25
               try clear p6
               try clear p8
               try clear q1
               try clear q14
               try clear q25
               try clear q6
               try clear q8
               obtain ⟨kq, x61_20, rfl, HA, HJ20, HO_4, BK131, HB⟩ := hcut
               cases kq with
               | zero => exact absurd HA.out (by simp [spec_ReadRule.j5])
               | succ kj20 =>
                have H := HA.out
                clear HA
                simp only [spec_ReadRule.j5] at H
                by_cases c26 : x61_20 = true
                ·subst c26
                 have H1 : (if 0 ≤ x5_4 then (if x5_4 < (a0.size : Int) then (if (bt a0 x5_4) = 39 then (spec_ReadRule.l2 kj20 a0 x4_1 (wrap64 (x5_4 + 1)) (!x8_4) (a0.extract (x5_1 : Int).toNat (x5_2 : Int).toNat) x132001_4) else (if x8_4 = true then (if x5_4 ≤ (wrap64 (x5_4 + 1)) then (if (wrap64 (x5_4 + 1)) ≤ (a0.size : Int) then (if x132001_4.size + (a0.extract (x5_4 : Int).toNat ((wrap64 (x5_4 + 1)) : Int).toNat).size ≤ 9223372036854775807 then (spec_ReadRule.l2 kj20 a0 x4_1 (wrap64 (x5_4 + 1)) x8_4 (a0.extract (x5_1 : Int).toNat (x5_2 : Int).toNat) (x132001_4 ++ (a0.extract (x5_4 : Int).toNat ((wrap64 (x5_4 + 1)) : Int).toNat))) else (none)) else (none)) else (none)) else (if (bt a0 x5_4) = 92 then (if (wrap64 (x5_4 + 1)) < (a0.size : Int) then (if 0 ≤ (wrap64 (x5_4 + 1)) then (if (bt a0 (wrap64 (x5_4 + 1))) = 39 then (if x132001_4.size + 1 ≤ 9223372036854775807 then (spec_ReadRule.l2 kj20 a0 x4_1 (wrap64 ((wrap64 (x5_4 + 1)) + 1)) x8_4 (a0.extract (x5_1 : Int).toNat (x5_2 : Int).toNat) (x132001_4 ++ (⟨#[39]⟩ : ByteArray))) else (none)) else (if x5_4 ≤ (wrap64 (x5_4 + 1)) then (if (wrap64 (x5_4 + 1)) ≤ (a0.size : Int) then (if x132001_4.size + (a0.extract (x5_4 : Int).toNat ((wrap64 (x5_4 + 1)) : Int).toNat).size ≤ 9223372036854775807 then (spec_ReadRule.l2 kj20 a0 x4_1 (wrap64 (x5_4 + 1)) x8_4 (a0.extract (x5_1 : Int).toNat (x5_2 : Int).toNat) (x132001_4 ++ (a0.extract (x5_4 : Int).toNat ((wrap64 (x5_4 + 1)) : Int).toNat))) else (none)) else (none)) else (none))) else (none)) else (if x5_4 ≤ (wrap64 (x5_4 + 1)) then (if (wrap64 (x5_4 + 1)) ≤ (a0.size : Int) then (if x132001_4.size + (a0.extract (x5_4 : Int).toNat ((wrap64 (x5_4 + 1)) : Int).toNat).size ≤ 9223372036854775807 then (spec_ReadRule.l2 kj20 a0 x4_1 (wrap64 (x5_4 + 1)) x8_4 (a0.extract (x5_1 : Int).toNat (x5_2 : Int).toNat) (x132001_4 ++ (a0.extract (x5_4 : Int).toNat ((wrap64 (x5_4 + 1)) : Int).toNat))) else (none)) else (none)) else (none))) else (if x5_4 ≤ (wrap64 (x5_4 + 1)) then (if (wrap64 (x5_4 + 1)) ≤ (a0.size : Int) then (if x132001_4.size + (a0.extract (x5_4 : Int).toNat ((wrap64 (x5_4 + 1)) : Int).toNat).size ≤ 9223372036854775807 then (spec_ReadRule.l2 kj20 a0 x4_1 (wrap64 (x5_4 + 1)) x8_4 (a0.extract (x5_1 : Int).toNat (x5_2 : Int).toNat) (x132001_4 ++ (a0.extract (x5_4 : Int).toNat ((wrap64 (x5_4 + 1)) : Int).toNat))) else (none)) else (none)) else (none))))) else (none)) else (none)) = some (r1, r2) := by rw [if_pos rfl] at H; exact H
                 clear H
                 have H := H1
                 clear H1
                 by_cases c27 : 0 ≤ x5_4
                 ·rw [if_pos c27] at H
                  have c27b0 : decide (0 ≤ x5_4) = true := decide_eq_true c27
                  clear c27
                  by_cases c28 : x5_4 < (a0.size : Int)
                  ·rw [if_pos c28] at H
                   have c28b0 : decide (x5_4 < (a0.size : Int)) = true := decide_eq_true c28
                   clear c28
                   by_cases c30 : (bt a0 x5_4) = 39
                   ·rw [if_pos c30] at H
                    have c30b0 : ((bt a0 x5_4) == 39) = true := beq_iff_eq.mpr c30
                    have c30b1 : ((bt a0 x5_4) != 39) = false := bne_eq_false_iff_eq.mpr c30
                    clear c30
                    have H' := Aside0.mk H
                    clear H
                    have p29 : 0 ≤ (x5_4 : Int) := of_decide_eq_true (by first | (with_reducible assumption) | assumption)
                    have q29 : x5_4 < (a0.size : Int) := of_decide_eq_true (by first | (with_reducible assumption) | assumption)
                    have hx29 := bt_at a0 x5_4
                    replace p29 := eq_true p29
                    replace q29 := eq_true q29
                    go_wp2
                    go_roundg kj20
                    case measure => have := HK1.out; have := HJ2.out; have := HJ9.out; have := HK4.out; have := HJ20.out; omega
                    case rel => exact ⟨(wrap64 (x5_4 + 1)), (!x8_4), (x132001_4), (by first | rfl | (simp; done) | (simp [*]; done)), (by first | rfl | (simp; done) | (simp [*]; done)), H', ⟨by have := HK1.out; have := HJ2.out; have := HJ9.out; have := HK4.out; have := HJ20.out; omega⟩, ⟨by (with_reducible repeat (first | apply Kd.R_alloc | apply Kd.R_drewN | apply Kd.R_drew)); exact HO_4.out⟩, ⟨by (with_reducible repeat (first | refine blk_drewN ?_ _ | refine blk_drew ?_ | refine blk_alloc ?_ _)); exact BK131.out⟩, ⟨by repeat (first | (with_reducible first | exact HB.out | apply below_alloc | apply pw_below_drewN | apply below_drew1 | refine below_set ?_ GE131.out) | exact HB.out)⟩⟩
                   ·rw [if_neg c30] at H
                    have c30b0 : ((bt a0 x5_4) == 39) = false := beq_eq_false_iff_ne.mpr c30
                    have c30b1 : ((bt a0 x5_4) != 39) = true := bne_iff_ne.mpr c30
                    by_cases c31 : x8_4 = true
                    ·subst c31
                     have H1 : (if x5_4 ≤ (wrap64 (x5_4 + 1)) then (if (wrap64 (x5_4 + 1)) ≤ (a0.size : Int) then (if x132001_4.size + (a0.extract (x5_4 : Int).toNat ((wrap64 (x5_4 + 1)) : Int).toNat).size ≤ 9223372036854775807 then (spec_ReadRule.l2 kj20 a0 x4_1 (wrap64 (x5_4 + 1)) true (a0.extract (x5_1 : Int).toNat (x5_2 : Int).toNat) (x132001_4 ++ (a0.extract (x5_4 : Int).toNat ((wrap64 (x5_4 + 1)) : Int).toNat))) else (none)) else (none)) else (none)) = some (r1, r2) := by rw [if_pos rfl] at H; exact H
                     clear H
                     have H := H1
                     clear H1
                     have c32b0 := eq_true (of_decide_eq_true (by first | (with_reducible assumption) | assumption) : 0 ≤ x5_4)
                     by_cases c33 : x5_4 ≤ (wrap64 (x5_4 + 1))
                     ·rw [if_pos c33] at H
                      have c33b0 := eq_true c33
                      have c33b1 : decide (x5_4 ≤ (wrap64 (x5_4 + 1))) = true := decide_eq_true c33
                      by_cases c34 : (wrap64 (x5_4 + 1)) ≤ (a0.size : Int)
                      ·rw [if_pos c34] at H
                       have c34b0 := eq_true c34
                       have c34b1 : decide ((wrap64 (x5_4 + 1)) ≤ (a0.size : Int)) = true := decide_eq_true c34
                       by_cases c35 : x132001_4.size + (a0.extract (x5_4 : Int).toNat ((wrap64 (x5_4 + 1)) : Int).toNat).size ≤ 9223372036854775807
                       ·rw [if_pos c35] at H
                        have c35b0 := eq_true c35
                        have c35b1 : decide (x132001_4.size + (a0.extract (x5_4 : Int).toNat ((wrap64 (x5_4 + 1)) : Int).toNat).size ≤ 9223372036854775807) = true := decide_eq_true c35
                        try have c35b2 : (9223372036854775807 < x132001_4.size + (a0.extract (x5_4 : Int).toNat ((wrap64 (x5_4 + 1)) : Int).toNat).size) = False := eq_false (Nat.not_lt.2 c35)
                        try (have c35b3 := c35b2; simp only [ByteArray.size_append] at c35b3)
                        try (have c35b4 := c35b3; simp only [show ∀ c : UInt8, (ByteArray.mk #[c]).size = 1 from fun _ => rfl] at c35b4)
                        try have c35b5 := c35b2
                        try simp only [ByteArray.size_append] at c35b5
                        try (try rw [show (a0.extract (x5_4 : Int).toNat ((wrap64 (x5_4 + 1)) : Int).toNat).size = ((wrap64 (x5_4 + 1)) : Int).toNat - (x5_4 : Int).toNat from by (have h_ := of_decide_eq_true (show decide ((wrap64 (x5_4 + 1)) ≤ (a0.size : Int)) = true by first | (with_reducible assumption) | assumption); rw [ByteArray.size_extract]; omega)] at c35b5)
                        have H' := Aside0.mk H
                        clear H
                        have p29 : 0 ≤ (x5_4 : Int) := of_decide_eq_true (by first | (with_reducible assumption) | assumption)
                        have q29 : x5_4 < (a0.size : Int) := of_decide_eq_true (by first | (with_reducible assumption) | assumption)
                        have hx29 := bt_at a0 x5_4
                        replace p29 := eq_true p29
                        replace q29 := eq_true q29
                        try go_wp2
                        have n0_ := Aside0.mk (Kd.R_drew HO_4.out)
                        have n1_ := Aside0.mk (blk_drew BK131.out)
                        have n2_ := Aside0.mk (below_drew1 HB.out)
                        clear HO_4
                        clear BK131
                        clear HB
                        have HO_4 := n0_
                        have BK131 := n1_
                        have HB := n2_
                        clear n0_ n1_ n2_
                        refine start_ (n := 10) (S := fun w' => w'.cell? ⟨gb131, 0, none⟩ = some (.string (a0.extract (x5_1 : Int).toNat (x5_2 : Int).toNat)) ∧ w'.cell? ⟨gb131, 1, none⟩ = some (.string x132001_4)) (ds := [9]) #[false, false, false, false, false, false, false, false, false, false] (by kernel_rfl) rfl rfl ⟨(blk_cell BK131.out 0).trans rfl, (blk_cell BK131.out 1).trans rfl⟩ (fun hHeld => ?_); refine with_tabW spec_ReadRule.tab13 spec_ReadRule.bits13 (fun HT_ HW_ => ?_)
                        generalize wc.drew = w36 at HO_4 BK131 HB hHeld ⊢
                        refine pure_ (i := 0) (N := some 62) (v := ?_) (a' := ?_) #[true, false, false, false, false, false, false, false, false, false] rfl rfl (any_of HT_.out (by kernel_rfl)) (fun _ _ _ h => h) (Or.inl ⟨by rfl, ?_⟩) ?_ ?_
                        rotate_left
                        ·intro w'
                         go_simp
                         with_reducible rfl
                        rotate_left
                        ·simp only [Act.put, List.setIfInBounds_toArray, List.set_cons_zero, List.set_cons_succ, i64_w, i32_w]
                         rfl
                        refine pure_ (i := 2) (N := some 64) (v := ?_) (a' := ?_) #[true, false, true, false, false, false, false, false, false, false] rfl rfl (any_of HT_.out (by kernel_rfl)) (fun _ _ _ h => h) (Or.inl ⟨by rfl, ?_⟩) ?_ ?_
                        rotate_left
                        ·intro w'
                         go_simp
                         with_reducible rfl
                        rotate_left
                        ·simp only [Act.put, List.setIfInBounds_toArray, List.set_cons_zero, List.set_cons_succ, i64_w, i32_w]
                         rfl
                        refine pure_ (i := 3) (N := some 65) (v := ?_) (a' := ?_) #[true, false, true, true, false, false, false, false, false, false] rfl rfl (any_of HT_.out (by kernel_rfl)) (fun _ _ _ h => h) (Or.inl ⟨by rfl, ?_⟩) ?_ ?_
                        rotate_left
                        ·intro w'
                         go_simp
                         with_reducible rfl
                        rotate_left
                        ·simp only [Act.put, List.setIfInBounds_toArray, List.set_cons_zero, List.set_cons_succ, i64_w, i32_w]
                         rfl
                        refine pure_ (i := 4) (N := some 66) (v := ?_) (a' := ?_) #[true, false, true, true, true, false, false, false, false, false] rfl rfl (any_of HT_.out (by kernel_rfl)) (fun _ _ _ h => h) (Or.inl ⟨by rfl, ?_⟩) ?_ ?_
                        rotate_left
                        ·intro w'
                         go_simp
                         with_reducible rfl
                        rotate_left
                        ·simp only [Act.put, List.setIfInBounds_toArray, List.set_cons_zero, List.set_cons_succ, i64_w, i32_w]
                         rfl
                        refine pure_ (i := 5) (N := some 67) (v := ?_) (a' := ?_) #[true, false, true, true, true, true, false, false, false, false] rfl rfl (any_of HT_.out (by kernel_rfl)) (fun _ _ _ h => h) (Or.inl ⟨by rfl, ?_⟩) ?_ ?_
                        rotate_left
                        ·intro w'
                         go_simp
                         with_reducible rfl
                        rotate_left
                        ·simp only [Act.put, List.setIfInBounds_toArray, List.set_cons_zero, List.set_cons_succ, i64_w, i32_w]
                         rfl
                        refine pure_ (i := 6) (N := some 68) (v := ?_) (a' := ?_) #[true, false, true, true, true, true, true, false, false, false] rfl rfl (any_of HT_.out (by kernel_rfl)) (fun _ _ _ h => h) (Or.inl ⟨by rfl, ?_⟩) ?_ ?_
                        rotate_left
                        ·intro w'
                         go_simp
                         with_reducible rfl
                        rotate_left
                        ·simp only [Act.put, List.setIfInBounds_toArray, List.set_cons_zero, List.set_cons_succ, i64_w, i32_w]
                         rfl
                        refine take_ (i := 1) (N := some 63) (v := ?_) (a' := ?_) #[true, true, true, true, true, true, true, false, false, false] rfl rfl (take_ofW HT_.out HW_.out (by kernel_rfl)) (fun _ _ _ h => h) (Or.inl ⟨by rfl, ?_⟩) hHeld ?_ ?_
                        rotate_left
                        ·rintro w' ⟨s0, s1⟩
                         go_simp
                         with_reducible rfl
                        rotate_left
                        ·simp only [Act.put, List.setIfInBounds_toArray, List.set_cons_zero, List.set_cons_succ, i64_w, i32_w]
                         rfl
                        refine pure_ (i := 7) (N := some 69) (v := ?_) (a' := ?_) #[true, true, true, true, true, true, true, true, false, false] rfl rfl (any_of HT_.out (by kernel_rfl)) (fun _ _ _ h => h) (Or.inl ⟨by rfl, ?_⟩) ?_ ?_
                        rotate_left
                        ·intro w'
                         go_simp
                         with_reducible rfl
                        rotate_left
                        ·simp only [Act.put, List.setIfInBounds_toArray, List.set_cons_zero, List.set_cons_succ, i64_w, i32_w]
                         rfl
                        refine pure_ (i := 8) (N := some 70) (v := ?_) (a' := ?_) #[true, true, true, true, true, true, true, true, true, false] rfl rfl (any_of HT_.out (by kernel_rfl)) (fun _ _ _ h => h) (Or.inl ⟨by rfl, ?_⟩) ?_ ?_
                        rotate_left
                        ·intro w'
                         go_simp
                         with_reducible rfl
                        rotate_left
                        ·simp only [Act.put, List.setIfInBounds_toArray, List.set_cons_zero, List.set_cons_succ, i64_w, i32_w]
                         rfl
                        refine last_ (i := 9) (N := none) #[true, true, true, true, true, true, true, true, true, true] rfl rfl (one_of HT_.out (by kernel_rfl)) (by decide) (fun K hK => ?_)
                        have hs37 : w36.cell? ⟨gb131, 1, none⟩ = some (.string x132001_4) := (blk_cell BK131.out 1).trans rfl
                        have hfs37 := blk_frozen BK131.out 1
                        refine skip_ (w1 := ?_) (by rfl) rfl ?_ ?_
                        rotate_left
                        ·go_simp
                         rfl
                        refine hK.out _ _ ?_
                        clear hK K
                        refine done_ (done_of HT_.out (by kernel_rfl)) ?_
                        try go_wp2
                        go_roundg kj20
                        case measure => have := HK1.out; have := HJ2.out; have := HJ9.out; have := HK4.out; have := HJ20.out; omega
                        case rel => exact ⟨(wrap64 (x5_4 + 1)), (true), (x132001_4 ++ (a0.extract (x5_4 : Int).toNat ((wrap64 (x5_4 + 1)) : Int).toNat)), (by first | rfl | (simp; done) | (simp [*]; done)), (by first | rfl | (simp; done) | (simp [*]; done)), H', ⟨by have := HK1.out; have := HJ2.out; have := HJ9.out; have := HK4.out; have := HJ20.out; omega⟩, ⟨by (with_reducible repeat (first | apply Kd.R_alloc | apply Kd.R_drewN | apply Kd.R_drew)); exact Kd.R_mono (Kd.R_far (p := ⟨gb131, 1, none⟩) (Kd.R_mono HO_4.out (fun k_ hk => (⟨hk, hk⟩ : _ ∧ k_ ≠ gb131))) (fun _ hk => hk.2) (.string (x132001_4 ++ (a0.extract (x5_4 : Int).toNat ((wrap64 (x5_4 + 1)) : Int).toNat)))) (fun _ hk => hk.1)⟩, ⟨by (with_reducible repeat (first | refine blk_drewN ?_ _ | refine blk_drew ?_ | refine blk_alloc ?_ _)); refine blk_put (cs := #[.string (a0.extract (x5_1 : Int).toNat (x5_2 : Int).toNat), .string x132001_4]) ?_ 1 _ rfl; (with_reducible repeat (first | refine blk_drewN ?_ _ | refine blk_drew ?_ | refine blk_alloc ?_ _)); exact BK131.out⟩, ⟨by repeat (first | (with_reducible first | exact HB.out | apply below_alloc | apply pw_below_drewN | apply below_drew1 | refine below_set ?_ GE131.out) | exact HB.out)⟩⟩
                       ·rw [if_neg c35] at H
                        exact absurd H (by simp)
                      ·rw [if_neg c34] at H
                       exact absurd H (by simp)
                     ·rw [if_neg c33] at H
                      exact absurd H (by simp)
                    ·replace c31 := Bool.eq_false_iff.mpr c31
                     subst c31
                     have H1 : (if (bt a0 x5_4) = 92 then (if (wrap64 (x5_4 + 1)) < (a0.size : Int) then (if 0 ≤ (wrap64 (x5_4 + 1)) then (if (bt a0 (wrap64 (x5_4 + 1))) = 39 then (if x132001_4.size + 1 ≤ 9223372036854775807 then (spec_ReadRule.l2 kj20 a0 x4_1 (wrap64 ((wrap64 (x5_4 + 1)) + 1)) false (a0.extract (x5_1 : Int).toNat (x5_2 : Int).toNat) (x132001_4 ++ (⟨#[39]⟩ : ByteArray))) else (none)) else (if x5_4 ≤ (wrap64 (x5_4 + 1)) then (if (wrap64 (x5_4 + 1)) ≤ (a0.size : Int) then (if x132001_4.size + (a0.extract (x5_4 : Int).toNat ((wrap64 (x5_4 + 1)) : Int).toNat).size ≤ 9223372036854775807 then (spec_ReadRule.l2 kj20 a0 x4_1 (wrap64 (x5_4 + 1)) false (a0.extract (x5_1 : Int).toNat (x5_2 : Int).toNat) (x132001_4 ++ (a0.extract (x5_4 : Int).toNat ((wrap64 (x5_4 + 1)) : Int).toNat))) else (none)) else (none)) else (none))) else (none)) else (if x5_4 ≤ (wrap64 (x5_4 + 1)) then (if (wrap64 (x5_4 + 1)) ≤ (a0.size : Int) then (if x132001_4.size + (a0.extract (x5_4 : Int).toNat ((wrap64 (x5_4 + 1)) : Int).toNat).size ≤ 9223372036854775807 then (spec_ReadRule.l2 kj20 a0 x4_1 (wrap64 (x5_4 + 1)) false (a0.extract (x5_1 : Int).toNat (x5_2 : Int).toNat) (x132001_4 ++ (a0.extract (x5_4 : Int).toNat ((wrap64 (x5_4 + 1)) : Int).toNat))) else (none)) else (none)) else (none))) else (if x5_4 ≤ (wrap64 (x5_4 + 1)) then (if (wrap64 (x5_4 + 1)) ≤ (a0.size : Int) then (if x132001_4.size + (a0.extract (x5_4 : Int).toNat ((wrap64 (x5_4 + 1)) : Int).toNat).size ≤ 9223372036854775807 then (spec_ReadRule.l2 kj20 a0 x4_1 (wrap64 (x5_4 + 1)) false (a0.extract (x5_1 : Int).toNat (x5_2 : Int).toNat) (x132001_4 ++ (a0.extract (x5_4 : Int).toNat ((wrap64 (x5_4 + 1)) : Int).toNat))) else (none)) else (none)) else (none))) = some (r1, r2) := by rw [if_neg (show ¬ (false = true) by decide)] at H; exact H
                     clear H
                     have H := H1
                     clear H1
                     by_cases c39 : (bt a0 x5_4) = 92
                     ·rw [if_pos c39] at H
                      have c39b0 : ((bt a0 x5_4) == 92) = true := beq_iff_eq.mpr c39
                      have c39b1 : ((bt a0 x5_4) != 92) = false := bne_eq_false_iff_eq.mpr c39
                      clear c39
                      by_cases c40 : (wrap64 (x5_4 + 1)) < (a0.size : Int)
                      ·rw [if_pos c40] at H
                       have c40b0 : decide ((wrap64 (x5_4 + 1)) < (a0.size : Int)) = true := decide_eq_true c40
                       clear c40
                       obtain ⟨ji41, hji41⟩ : ∃ j_ : Int, (wrap64 (x5_4 + 1)) = j_ := ⟨_, rfl⟩
                       replace H : (if 0 ≤ (ji41) then (if (bt a0 (ji41)) = 39 then (if x132001_4.size + 1 ≤ 9223372036854775807 then (spec_ReadRule.l2 kj20 a0 x4_1 (wrap64 ((ji41) + 1)) false (a0.extract (x5_1 : Int).toNat (x5_2 : Int).toNat) (x132001_4 ++ (⟨#[39]⟩ : ByteArray))) else (none)) else (if x5_4 ≤ (ji41) then (if (ji41) ≤ (a0.size : Int) then (if x132001_4.size + (a0.extract (x5_4 : Int).toNat ((ji41) : Int).toNat).size ≤ 9223372036854775807 then (spec_ReadRule.l2 kj20 a0 x4_1 ji41 false (a0.extract (x5_1 : Int).toNat (x5_2 : Int).toNat) (x132001_4 ++ (a0.extract (x5_4 : Int).toNat ((ji41) : Int).toNat))) else (none)) else (none)) else (none))) else (none)) = some (r1, r2) := by first | (rw [hji41] at H; exact H) | (simp only [hji41] at H ⊢; exact H)
                       (try rw [hji41] at c40b0)
                       have hji41w : (IntKind.i64.wrap (x5_4 + 1)) = ji41 := (i64_w _).trans hji41
                       by_cases c42 : 0 ≤ (ji41)
                       ·rw [if_pos c42] at H
                        have c42b0 : decide (0 ≤ (ji41)) = true := decide_eq_true c42
                        clear c42
                        by_cases c44 : (bt a0 (ji41)) = 39
                        ·rw [if_pos c44] at H
                         have c44b0 : ((bt a0 (ji41)) == 39) = true := beq_iff_eq.mpr c44
                         have c44b1 : ((bt a0 (ji41)) != 39) = false := bne_eq_false_iff_eq.mpr c44
                         clear c44
                         by_cases c45 : x132001_4.size + 1 ≤ 9223372036854775807
                         ·rw [if_pos c45] at H
                          have c45b0 := eq_true c45
                          have c45b1 : decide (x132001_4.size + 1 ≤ 9223372036854775807) = true := decide_eq_true c45
                          try have c45b2 : (9223372036854775807 < x132001_4.size + 1) = False := eq_false (Nat.not_lt.2 c45)
                          try (have c45b3 := c45b2; simp only [ByteArray.size_append] at c45b3)
                          try (have c45b4 := c45b3; simp only [show ∀ c : UInt8, (ByteArray.mk #[c]).size = 1 from fun _ => rfl] at c45b4)
                          have H' := Aside0.mk H
                          clear H
                          have p29 : 0 ≤ (x5_4 : Int) := of_decide_eq_true (by first | (with_reducible assumption) | assumption)
                          have q29 : x5_4 < (a0.size : Int) := of_decide_eq_true (by first | (with_reducible assumption) | assumption)
                          have hx29 := bt_at a0 x5_4
                          replace p29 := eq_true p29
                          replace q29 := eq_true q29
                          have p38 : 0 ≤ (x5_4 : Int) := of_decide_eq_true (by first | (with_reducible assumption) | assumption)
                          have q38 : x5_4 < (a0.size : Int) := of_decide_eq_true (by first | (with_reducible assumption) | assumption)
                          have hx38 := bt_at a0 x5_4
                          replace p38 := eq_true p38
                          replace q38 := eq_true q38
                          have p43 : 0 ≤ ((ji41) : Int) := of_decide_eq_true (by first | (with_reducible assumption) | assumption)
                          have q43 : (ji41) < (a0.size : Int) := of_decide_eq_true (by first | (with_reducible assumption) | assumption)
                          have hx43 := bt_at a0 (ji41)
                          replace p43 := eq_true p43
                          replace q43 := eq_true q43
                          have hcz46_0 : wc.cell? ⟨gb131, 0, none⟩ = some (.string (a0.extract (x5_1 : Int).toNat (x5_2 : Int).toNat)) := (blk_cell BK131.out 0).trans rfl
                          have hcz46_1 : wc.cell? ⟨gb131, 1, none⟩ = some (.string x132001_4) := (blk_cell BK131.out 1).trans rfl
                          have hfz46_0 := blk_frozen BK131.out 0
                          have hfz46_1 := blk_frozen BK131.out 1
                          go_wp2
                          go_roundg kj20
                          case measure => have := HK1.out; have := HJ2.out; have := HJ9.out; have := HK4.out; have := HJ20.out; omega
                          case rel => exact ⟨(wrap64 ((ji41) + 1)), (false), (x132001_4 ++ (⟨#[39]⟩ : ByteArray)), (by first | rfl | (simp; done) | (simp only [← hji41] <;> (first | rfl | simp)) | (simp [*]; done)), (by first | rfl | (simp; done) | (simp [*]; done)), H', ⟨by have := HK1.out; have := HJ2.out; have := HJ9.out; have := HK4.out; have := HJ20.out; omega⟩, ⟨by (with_reducible repeat (first | apply Kd.R_alloc | apply Kd.R_drewN | apply Kd.R_drew)); exact Kd.R_mono (Kd.R_far (p := ⟨gb131, 1, none⟩) (Kd.R_mono HO_4.out (fun k_ hk => (⟨hk, hk⟩ : _ ∧ k_ ≠ gb131))) (fun _ hk => hk.2) (.string (x132001_4 ++ (⟨#[39]⟩ : ByteArray)))) (fun _ hk => hk.1)⟩, ⟨by (with_reducible repeat (first | refine blk_drewN ?_ _ | refine blk_drew ?_ | refine blk_alloc ?_ _)); refine blk_put (cs := #[.string (a0.extract (x5_1 : Int).toNat (x5_2 : Int).toNat), .string x132001_4]) ?_ 1 _ rfl; (with_reducible repeat (first | refine blk_drewN ?_ _ | refine blk_drew ?_ | refine blk_alloc ?_ _)); exact BK131.out⟩, ⟨by repeat (first | (with_reducible first | exact HB.out | apply below_alloc | apply pw_below_drewN | apply below_drew1 | refine below_set ?_ GE131.out) | exact HB.out)⟩⟩
                         ·rw [if_neg c45] at H
                          exact absurd H (by simp)
                        ·rw [if_neg c44] at H
                         have c44b0 : ((bt a0 (ji41)) == 39) = false := beq_eq_false_iff_ne.mpr c44
                         have c44b1 : ((bt a0 (ji41)) != 39) = true := bne_iff_ne.mpr c44
                         have c47b0 := eq_true (of_decide_eq_true (by first | (with_reducible assumption) | assumption) : 0 ≤ x5_4)
                         by_cases c48 : x5_4 ≤ (ji41)
                         ·rw [if_pos c48] at H
                          have c48b0 := eq_true c48
                          have c48b1 : decide (x5_4 ≤ (ji41)) = true := decide_eq_true c48
                          clear c48
                          by_cases c49 : (ji41) ≤ (a0.size : Int)
                          ·rw [if_pos c49] at H
                           have c49b0 := eq_true c49
                           have c49b1 : decide ((ji41) ≤ (a0.size : Int)) = true := decide_eq_true c49
                           clear c49
                           by_cases c50 : x132001_4.size + (a0.extract (x5_4 : Int).toNat ((ji41) : Int).toNat).size ≤ 9223372036854775807
                           ·rw [if_pos c50] at H
                            have c50b0 := eq_true c50
                            have c50b1 : decide (x132001_4.size + (a0.extract (x5_4 : Int).toNat ((ji41) : Int).toNat).size ≤ 9223372036854775807) = true := decide_eq_true c50
                            try have c50b2 : (9223372036854775807 < x132001_4.size + (a0.extract (x5_4 : Int).toNat ((ji41) : Int).toNat).size) = False := eq_false (Nat.not_lt.2 c50)
                            try (have c50b3 := c50b2; simp only [ByteArray.size_append] at c50b3)
                            try (have c50b4 := c50b3; simp only [show ∀ c : UInt8, (ByteArray.mk #[c]).size = 1 from fun _ => rfl] at c50b4)
                            try have c50b5 := c50b2
                            try simp only [ByteArray.size_append] at c50b5
                            try (try rw [show (a0.extract (x5_4 : Int).toNat ((ji41) : Int).toNat).size = ((ji41) : Int).toNat - (x5_4 : Int).toNat from by (have h_ := of_decide_eq_true (show decide ((ji41) ≤ (a0.size : Int)) = true by first | (with_reducible assumption) | assumption); rw [ByteArray.size_extract]; omega)] at c50b5)
                            have H' := Aside0.mk H
                            clear H
                            have p29 : 0 ≤ (x5_4 : Int) := of_decide_eq_true (by first | (with_reducible assumption) | assumption)
                            have q29 : x5_4 < (a0.size : Int) := of_decide_eq_true (by first | (with_reducible assumption) | assumption)
                            have hx29 := bt_at a0 x5_4
                            replace p29 := eq_true p29
                            replace q29 := eq_true q29
                            have p38 : 0 ≤ (x5_4 : Int) := of_decide_eq_true (by first | (with_reducible assumption) | assumption)
                            have q38 : x5_4 < (a0.size : Int) := of_decide_eq_true (by first | (with_reducible assumption) | assumption)
                            have hx38 := bt_at a0 x5_4
                            replace p38 := eq_true p38
                            replace q38 := eq_true q38
                            have p43 : 0 ≤ ((ji41) : Int) := of_decide_eq_true (by first | (with_reducible assumption) | assumption)
                            have q43 : (ji41) < (a0.size : Int) := of_decide_eq_true (by first | (with_reducible assumption) | assumption)
                            have hx43 := bt_at a0 (ji41)
                            replace p43 := eq_true p43
                            replace q43 := eq_true q43
                            try go_wp2
                            have n0_ := Aside0.mk (Kd.R_drew HO_4.out)
                            have n1_ := Aside0.mk (blk_drew BK131.out)
                            have n2_ := Aside0.mk (below_drew1 HB.out)
                            clear HO_4
                            clear BK131
                            clear HB
                            have HO_4 := n0_
                            have BK131 := n1_
                            have HB := n2_
                            clear n0_ n1_ n2_
                            refine start_ (n := 10) (S := fun w' => w'.cell? ⟨gb131, 0, none⟩ = some (.string (a0.extract (x5_1 : Int).toNat (x5_2 : Int).toNat)) ∧ w'.cell? ⟨gb131, 1, none⟩ = some (.string x132001_4)) (ds := [9]) #[false, false, false, false, false, false, false, false, false, false] (by kernel_rfl) rfl rfl ⟨(blk_cell BK131.out 0).trans rfl, (blk_cell BK131.out 1).trans rfl⟩ (fun hHeld => ?_); refine with_tabW spec_ReadRule.tab13 spec_ReadRule.bits13 (fun HT_ HW_ => ?_)
                            generalize wc.drew = w51 at HO_4 BK131 HB hHeld ⊢
                            refine pure_ (i := 0) (N := some 62) (v := ?_) (a' := ?_) #[true, false, false, false, false, false, false, false, false, false] rfl rfl (any_of HT_.out (by kernel_rfl)) (fun _ _ _ h => h) (Or.inl ⟨by rfl, ?_⟩) ?_ ?_
                            rotate_left
                            ·intro w'
                             go_simp
                             with_reducible rfl
                            rotate_left
                            ·simp only [Act.put, List.setIfInBounds_toArray, List.set_cons_zero, List.set_cons_succ, i64_w, i32_w]
                             rfl
                            refine pure_ (i := 2) (N := some 64) (v := ?_) (a' := ?_) #[true, false, true, false, false, false, false, false, false, false] rfl rfl (any_of HT_.out (by kernel_rfl)) (fun _ _ _ h => h) (Or.inl ⟨by rfl, ?_⟩) ?_ ?_
                            rotate_left
                            ·intro w'
                             go_simp
                             with_reducible rfl
                            rotate_left
                            ·simp only [Act.put, List.setIfInBounds_toArray, List.set_cons_zero, List.set_cons_succ, i64_w, i32_w]
                             rfl
                            refine pure_ (i := 3) (N := some 65) (v := ?_) (a' := ?_) #[true, false, true, true, false, false, false, false, false, false] rfl rfl (any_of HT_.out (by kernel_rfl)) (fun _ _ _ h => h) (Or.inl ⟨by rfl, ?_⟩) ?_ ?_
                            rotate_left
                            ·intro w'
                             go_simp
                             with_reducible rfl
                            rotate_left
                            ·simp only [Act.put, List.setIfInBounds_toArray, List.set_cons_zero, List.set_cons_succ, i64_w, i32_w]
                             rfl
                            refine pure_ (i := 4) (N := some 66) (v := ?_) (a' := ?_) #[true, false, true, true, true, false, false, false, false, false] rfl rfl (any_of HT_.out (by kernel_rfl)) (fun _ _ _ h => h) (Or.inl ⟨by rfl, ?_⟩) ?_ ?_
                            rotate_left
                            ·intro w'
                             go_simp
                             with_reducible rfl
                            rotate_left
                            ·simp only [Act.put, List.setIfInBounds_toArray, List.set_cons_zero, List.set_cons_succ, i64_w, i32_w]
                             rfl
                            refine pure_ (i := 5) (N := some 67) (v := ?_) (a' := ?_) #[true, false, true, true, true, true, false, false, false, false] rfl rfl (any_of HT_.out (by kernel_rfl)) (fun _ _ _ h => h) (Or.inl ⟨by rfl, ?_⟩) ?_ ?_
                            rotate_left
                            ·intro w'
                             go_simp
                             with_reducible rfl
                            rotate_left
                            ·simp only [Act.put, List.setIfInBounds_toArray, List.set_cons_zero, List.set_cons_succ, i64_w, i32_w]
                             rfl
                            refine pure_ (i := 6) (N := some 68) (v := ?_) (a' := ?_) #[true, false, true, true, true, true, true, false, false, false] rfl rfl (any_of HT_.out (by kernel_rfl)) (fun _ _ _ h => h) (Or.inl ⟨by rfl, ?_⟩) ?_ ?_
                            rotate_left
                            ·intro w'
                             go_simp
                             with_reducible rfl
                            rotate_left
                            ·simp only [Act.put, List.setIfInBounds_toArray, List.set_cons_zero, List.set_cons_succ, i64_w, i32_w]
                             rfl
                            refine take_ (i := 1) (N := some 63) (v := ?_) (a' := ?_) #[true, true, true, true, true, true, true, false, false, false] rfl rfl (take_ofW HT_.out HW_.out (by kernel_rfl)) (fun _ _ _ h => h) (Or.inl ⟨by rfl, ?_⟩) hHeld ?_ ?_
                            rotate_left
                            ·rintro w' ⟨s0, s1⟩
                             go_simp
                             with_reducible rfl
                            rotate_left
                            ·simp only [Act.put, List.setIfInBounds_toArray, List.set_cons_zero, List.set_cons_succ, i64_w, i32_w]
                             rfl
                            refine pure_ (i := 7) (N := some 69) (v := ?_) (a' := ?_) #[true, true, true, true, true, true, true, true, false, false] rfl rfl (any_of HT_.out (by kernel_rfl)) (fun _ _ _ h => h) (Or.inl ⟨by rfl, ?_⟩) ?_ ?_
                            rotate_left
                            ·intro w'
                             go_simp
                             with_reducible rfl
                            rotate_left
                            ·simp only [Act.put, List.setIfInBounds_toArray, List.set_cons_zero, List.set_cons_succ, i64_w, i32_w]
                             rfl
                            refine pure_ (i := 8) (N := some 70) (v := ?_) (a' := ?_) #[true, true, true, true, true, true, true, true, true, false] rfl rfl (any_of HT_.out (by kernel_rfl)) (fun _ _ _ h => h) (Or.inl ⟨by rfl, ?_⟩) ?_ ?_
                            rotate_left
                            ·intro w'
                             go_simp
                             with_reducible rfl
                            rotate_left
                            ·simp only [Act.put, List.setIfInBounds_toArray, List.set_cons_zero, List.set_cons_succ, i64_w, i32_w]
                             rfl
                            refine last_ (i := 9) (N := none) #[true, true, true, true, true, true, true, true, true, true] rfl rfl (one_of HT_.out (by kernel_rfl)) (by decide) (fun K hK => ?_)
                            have hs52 : w51.cell? ⟨gb131, 1, none⟩ = some (.string x132001_4) := (blk_cell BK131.out 1).trans rfl
                            have hfs52 := blk_frozen BK131.out 1
                            refine skip_ (w1 := ?_) (by rfl) rfl ?_ ?_
                            rotate_left
                            ·go_simp
                             rfl
                            refine hK.out _ _ ?_
                            clear hK K
                            refine done_ (done_of HT_.out (by kernel_rfl)) ?_
                            try go_wp2
                            go_roundg kj20
                            case measure => have := HK1.out; have := HJ2.out; have := HJ9.out; have := HK4.out; have := HJ20.out; omega
                            case rel => exact ⟨(ji41), (false), (x132001_4 ++ (a0.extract (x5_4 : Int).toNat ((ji41) : Int).toNat)), (by first | rfl | (simp; done) | (simp only [← hji41] <;> (first | rfl | simp)) | (simp [*]; done)), (by first | rfl | (simp; done) | (simp [*]; done)), H', ⟨by have := HK1.out; have := HJ2.out; have := HJ9.out; have := HK4.out; have := HJ20.out; omega⟩, ⟨by (with_reducible repeat (first | apply Kd.R_alloc | apply Kd.R_drewN | apply Kd.R_drew)); exact Kd.R_mono (Kd.R_far (p := ⟨gb131, 1, none⟩) (Kd.R_mono HO_4.out (fun k_ hk => (⟨hk, hk⟩ : _ ∧ k_ ≠ gb131))) (fun _ hk => hk.2) (.string (x132001_4 ++ (a0.extract (x5_4 : Int).toNat ((ji41) : Int).toNat)))) (fun _ hk => hk.1)⟩, ⟨by (with_reducible repeat (first | refine blk_drewN ?_ _ | refine blk_drew ?_ | refine blk_alloc ?_ _)); refine blk_put (cs := #[.string (a0.extract (x5_1 : Int).toNat (x5_2 : Int).toNat), .string x132001_4]) ?_ 1 _ rfl; (with_reducible repeat (first | refine blk_drewN ?_ _ | refine blk_drew ?_ | refine blk_alloc ?_ _)); exact BK131.out⟩, ⟨by repeat (first | (with_reducible first | exact HB.out | apply below_alloc | apply pw_below_drewN | apply below_drew1 | refine below_set ?_ GE131.out) | exact HB.out)⟩⟩
                           ·rw [if_neg c50] at H
                            exact absurd H (by simp)
                          ·rw [if_neg c49] at H
                           exact absurd H (by simp)
                         ·rw [if_neg c48] at H
                          exact absurd H (by simp)
                       ·rw [if_neg c42] at H
                        exact absurd H (by simp)
                      ·rw [if_neg c40] at H
                       have c40b0 : decide ((wrap64 (x5_4 + 1)) < (a0.size : Int)) = false := decide_eq_false c40
                       clear c40
                       have c53b0 := eq_true (of_decide_eq_true (by first | (with_reducible assumption) | assumption) : 0 ≤ x5_4)
                       by_cases c54 : x5_4 ≤ (wrap64 (x5_4 + 1))
                       ·rw [if_pos c54] at H
                        have c54b0 := eq_true c54
                        have c54b1 : decide (x5_4 ≤ (wrap64 (x5_4 + 1))) = true := decide_eq_true c54
                        by_cases c55 : (wrap64 (x5_4 + 1)) ≤ (a0.size : Int)
                        ·rw [if_pos c55] at H
                         have c55b0 := eq_true c55
                         have c55b1 : decide ((wrap64 (x5_4 + 1)) ≤ (a0.size : Int)) = true := decide_eq_true c55
                         by_cases c56 : x132001_4.size + (a0.extract (x5_4 : Int).toNat ((wrap64 (x5_4 + 1)) : Int).toNat).size ≤ 9223372036854775807
                         ·rw [if_pos c56] at H
                          have c56b0 := eq_true c56
                          have c56b1 : decide (x132001_4.size + (a0.extract (x5_4 : Int).toNat ((wrap64 (x5_4 + 1)) : Int).toNat).size ≤ 9223372036854775807) = true := decide_eq_true c56
                          try have c56b2 : (9223372036854775807 < x132001_4.size + (a0.extract (x5_4 : Int).toNat ((wrap64 (x5_4 + 1)) : Int).toNat).size) = False := eq_false (Nat.not_lt.2 c56)
                          try (have c56b3 := c56b2; simp only [ByteArray.size_append] at c56b3)
                          try (have c56b4 := c56b3; simp only [show ∀ c : UInt8, (ByteArray.mk #[c]).size = 1 from fun _ => rfl] at c56b4)
                          try have c56b5 := c56b2
                          try simp only [ByteArray.size_append] at c56b5
                          try (try rw [show (a0.extract (x5_4 : Int).toNat ((wrap64 (x5_4 + 1)) : Int).toNat).size = ((wrap64 (x5_4 + 1)) : Int).toNat - (x5_4 : Int).toNat from by (have h_ := of_decide_eq_true (show decide ((wrap64 (x5_4 + 1)) ≤ (a0.size : Int)) = true by first | (with_reducible assumption) | assumption); rw [ByteArray.size_extract]; omega)] at c56b5)
                          have H' := Aside0.mk H
                          clear H
                          have p29 : 0 ≤ (x5_4 : Int) := of_decide_eq_true (by first | (with_reducible assumption) | assumption)
                          have q29 : x5_4 < (a0.size : Int) := of_decide_eq_true (by first | (with_reducible assumption) | assumption)
                          have hx29 := bt_at a0 x5_4
                          replace p29 := eq_true p29
                          replace q29 := eq_true q29
                          have p38 : 0 ≤ (x5_4 : Int) := of_decide_eq_true (by first | (with_reducible assumption) | assumption)
                          have q38 : x5_4 < (a0.size : Int) := of_decide_eq_true (by first | (with_reducible assumption) | assumption)
                          have hx38 := bt_at a0 x5_4
                          replace p38 := eq_true p38
                          replace q38 := eq_true q38
                          try go_wp2
                          have n0_ := Aside0.mk (Kd.R_drew HO_4.out)
                          have n1_ := Aside0.mk (blk_drew BK131.out)
                          have n2_ := Aside0.mk (below_drew1 HB.out)
                          clear HO_4
                          clear BK131
                          clear HB
                          have HO_4 := n0_
                          have BK131 := n1_
                          have HB := n2_
                          clear n0_ n1_ n2_
                          refine start_ (n := 10) (S := fun w' => w'.cell? ⟨gb131, 0, none⟩ = some (.string (a0.extract (x5_1 : Int).toNat (x5_2 : Int).toNat)) ∧ w'.cell? ⟨gb131, 1, none⟩ = some (.string x132001_4)) (ds := [9]) #[false, false, false, false, false, false, false, false, false, false] (by kernel_rfl) rfl rfl ⟨(blk_cell BK131.out 0).trans rfl, (blk_cell BK131.out 1).trans rfl⟩ (fun hHeld => ?_); refine with_tabW spec_ReadRule.tab13 spec_ReadRule.bits13 (fun HT_ HW_ => ?_)
                          generalize wc.drew = w57 at HO_4 BK131 HB hHeld ⊢
                          refine pure_ (i := 0) (N := some 62) (v := ?_) (a' := ?_) #[true, false, false, false, false, false, false, false, false, false] rfl rfl (any_of HT_.out (by kernel_rfl)) (fun _ _ _ h => h) (Or.inl ⟨by rfl, ?_⟩) ?_ ?_
                          rotate_left
                          ·intro w'
                           go_simp
                           with_reducible rfl
                          rotate_left
                          ·simp only [Act.put, List.setIfInBounds_toArray, List.set_cons_zero, List.set_cons_succ, i64_w, i32_w]
                           rfl
                          refine pure_ (i := 2) (N := some 64) (v := ?_) (a' := ?_) #[true, false, true, false, false, false, false, false, false, false] rfl rfl (any_of HT_.out (by kernel_rfl)) (fun _ _ _ h => h) (Or.inl ⟨by rfl, ?_⟩) ?_ ?_
                          rotate_left
                          ·intro w'
                           go_simp
                           with_reducible rfl
                          rotate_left
                          ·simp only [Act.put, List.setIfInBounds_toArray, List.set_cons_zero, List.set_cons_succ, i64_w, i32_w]
                           rfl
                          refine pure_ (i := 3) (N := some 65) (v := ?_) (a' := ?_) #[true, false, true, true, false, false, false, false, false, false] rfl rfl (any_of HT_.out (by kernel_rfl)) (fun _ _ _ h => h) (Or.inl ⟨by rfl, ?_⟩) ?_ ?_
                          rotate_left
                          ·intro w'
                           go_simp
                           with_reducible rfl
                          rotate_left
                          ·simp only [Act.put, List.setIfInBounds_toArray, List.set_cons_zero, List.set_cons_succ, i64_w, i32_w]
                           rfl
                          refine pure_ (i := 4) (N := some 66) (v := ?_) (a' := ?_) #[true, false, true, true, true, false, false, false, false, false] rfl rfl (any_of HT_.out (by kernel_rfl)) (fun _ _ _ h => h) (Or.inl ⟨by rfl, ?_⟩) ?_ ?_
                          rotate_left
                          ·intro w'
                           go_simp
                           with_reducible rfl
                          rotate_left
                          ·simp only [Act.put, List.setIfInBounds_toArray, List.set_cons_zero, List.set_cons_succ, i64_w, i32_w]
                           rfl
                          refine pure_ (i := 5) (N := some 67) (v := ?_) (a' := ?_) #[true, false, true, true, true, true, false, false, false, false] rfl rfl (any_of HT_.out (by kernel_rfl)) (fun _ _ _ h => h) (Or.inl ⟨by rfl, ?_⟩) ?_ ?_
                          rotate_left
                          ·intro w'
                           go_simp
                           with_reducible rfl
                          rotate_left
                          ·simp only [Act.put, List.setIfInBounds_toArray, List.set_cons_zero, List.set_cons_succ, i64_w, i32_w]
                           rfl
                          refine pure_ (i := 6) (N := some 68) (v := ?_) (a' := ?_) #[true, false, true, true, true, true, true, false, false, false] rfl rfl (any_of HT_.out (by kernel_rfl)) (fun _ _ _ h => h) (Or.inl ⟨by rfl, ?_⟩) ?_ ?_
                          rotate_left
                          ·intro w'
                           go_simp
                           with_reducible rfl
                          rotate_left
                          ·simp only [Act.put, List.setIfInBounds_toArray, List.set_cons_zero, List.set_cons_succ, i64_w, i32_w]
                           rfl
                          refine take_ (i := 1) (N := some 63) (v := ?_) (a' := ?_) #[true, true, true, true, true, true, true, false, false, false] rfl rfl (take_ofW HT_.out HW_.out (by kernel_rfl)) (fun _ _ _ h => h) (Or.inl ⟨by rfl, ?_⟩) hHeld ?_ ?_
                          rotate_left
                          ·rintro w' ⟨s0, s1⟩
                           go_simp
                           with_reducible rfl
                          rotate_left
                          ·simp only [Act.put, List.setIfInBounds_toArray, List.set_cons_zero, List.set_cons_succ, i64_w, i32_w]
                           rfl
                          refine pure_ (i := 7) (N := some 69) (v := ?_) (a' := ?_) #[true, true, true, true, true, true, true, true, false, false] rfl rfl (any_of HT_.out (by kernel_rfl)) (fun _ _ _ h => h) (Or.inl ⟨by rfl, ?_⟩) ?_ ?_
                          rotate_left
                          ·intro w'
                           go_simp
                           with_reducible rfl
                          rotate_left
                          ·simp only [Act.put, List.setIfInBounds_toArray, List.set_cons_zero, List.set_cons_succ, i64_w, i32_w]
                           rfl
                          refine pure_ (i := 8) (N := some 70) (v := ?_) (a' := ?_) #[true, true, true, true, true, true, true, true, true, false] rfl rfl (any_of HT_.out (by kernel_rfl)) (fun _ _ _ h => h) (Or.inl ⟨by rfl, ?_⟩) ?_ ?_
                          rotate_left
                          ·intro w'
                           go_simp
                           with_reducible rfl
                          rotate_left
                          ·simp only [Act.put, List.setIfInBounds_toArray, List.set_cons_zero, List.set_cons_succ, i64_w, i32_w]
                           rfl
                          refine last_ (i := 9) (N := none) #[true, true, true, true, true, true, true, true, true, true] rfl rfl (one_of HT_.out (by kernel_rfl)) (by decide) (fun K hK => ?_)
                          have hs58 : w57.cell? ⟨gb131, 1, none⟩ = some (.string x132001_4) := (blk_cell BK131.out 1).trans rfl
                          have hfs58 := blk_frozen BK131.out 1
                          refine skip_ (w1 := ?_) (by rfl) rfl ?_ ?_
                          rotate_left
                          ·go_simp
                           rfl
                          refine hK.out _ _ ?_
                          clear hK K
                          refine done_ (done_of HT_.out (by kernel_rfl)) ?_
                          try go_wp2
                          go_roundg kj20
                          case measure => have := HK1.out; have := HJ2.out; have := HJ9.out; have := HK4.out; have := HJ20.out; omega
                          case rel => exact ⟨(wrap64 (x5_4 + 1)), (false), (x132001_4 ++ (a0.extract (x5_4 : Int).toNat ((wrap64 (x5_4 + 1)) : Int).toNat)), (by first | rfl | (simp; done) | (simp [*]; done)), (by first | rfl | (simp; done) | (simp [*]; done)), H', ⟨by have := HK1.out; have := HJ2.out; have := HJ9.out; have := HK4.out; have := HJ20.out; omega⟩, ⟨by (with_reducible repeat (first | apply Kd.R_alloc | apply Kd.R_drewN | apply Kd.R_drew)); exact Kd.R_mono (Kd.R_far (p := ⟨gb131, 1, none⟩) (Kd.R_mono HO_4.out (fun k_ hk => (⟨hk, hk⟩ : _ ∧ k_ ≠ gb131))) (fun _ hk => hk.2) (.string (x132001_4 ++ (a0.extract (x5_4 : Int).toNat ((wrap64 (x5_4 + 1)) : Int).toNat)))) (fun _ hk => hk.1)⟩, ⟨by (with_reducible repeat (first | refine blk_drewN ?_ _ | refine blk_drew ?_ | refine blk_alloc ?_ _)); refine blk_put (cs := #[.string (a0.extract (x5_1 : Int).toNat (x5_2 : Int).toNat), .string x132001_4]) ?_ 1 _ rfl; (with_reducible repeat (first | refine blk_drewN ?_ _ | refine blk_drew ?_ | refine blk_alloc ?_ _)); exact BK131.out⟩, ⟨by repeat (first | (with_reducible first | exact HB.out | apply below_alloc | apply pw_below_drewN | apply below_drew1 | refine below_set ?_ GE131.out) | exact HB.out)⟩⟩
                         ·rw [if_neg c56] at H
                          exact absurd H (by simp)
                        ·rw [if_neg c55] at H
                         exact absurd H (by simp)
                       ·rw [if_neg c54] at H
                        exact absurd H (by simp)
                     ·rw [if_neg c39] at H
                      have c39b0 : ((bt a0 x5_4) == 92) = false := beq_eq_false_iff_ne.mpr c39
                      have c39b1 : ((bt a0 x5_4) != 92) = true := bne_iff_ne.mpr c39
                      have c59b0 := eq_true (of_decide_eq_true (by first | (with_reducible assumption) | assumption) : 0 ≤ x5_4)
                      by_cases c60 : x5_4 ≤ (wrap64 (x5_4 + 1))
                      ·rw [if_pos c60] at H
                       have c60b0 := eq_true c60
                       have c60b1 : decide (x5_4 ≤ (wrap64 (x5_4 + 1))) = true := decide_eq_true c60
                       by_cases c61 : (wrap64 (x5_4 + 1)) ≤ (a0.size : Int)
                       ·rw [if_pos c61] at H
                        have c61b0 := eq_true c61
                        have c61b1 : decide ((wrap64 (x5_4 + 1)) ≤ (a0.size : Int)) = true := decide_eq_true c61
                        by_cases c62 : x132001_4.size + (a0.extract (x5_4 : Int).toNat ((wrap64 (x5_4 + 1)) : Int).toNat).size ≤ 9223372036854775807
                        ·rw [if_pos c62] at H
                         have c62b0 := eq_true c62
                         have c62b1 : decide (x132001_4.size + (a0.extract (x5_4 : Int).toNat ((wrap64 (x5_4 + 1)) : Int).toNat).size ≤ 9223372036854775807) = true := decide_eq_true c62
                         try have c62b2 : (9223372036854775807 < x132001_4.size + (a0.extract (x5_4 : Int).toNat ((wrap64 (x5_4 + 1)) : Int).toNat).size) = False := eq_false (Nat.not_lt.2 c62)
                         try (have c62b3 := c62b2; simp only [ByteArray.size_append] at c62b3)
                         try (have c62b4 := c62b3; simp only [show ∀ c : UInt8, (ByteArray.mk #[c]).size = 1 from fun _ => rfl] at c62b4)
                         try have c62b5 := c62b2
                         try simp only [ByteArray.size_append] at c62b5
                         try (try rw [show (a0.extract (x5_4 : Int).toNat ((wrap64 (x5_4 + 1)) : Int).toNat).size = ((wrap64 (x5_4 + 1)) : Int).toNat - (x5_4 : Int).toNat from by (have h_ := of_decide_eq_true (show decide ((wrap64 (x5_4 + 1)) ≤ (a0.size : Int)) = true by first | (with_reducible assumption) | assumption); rw [ByteArray.size_extract]; omega)] at c62b5)
                         have H' := Aside0.mk H
                         clear H
                         have p29 : 0 ≤ (x5_4 : Int) := of_decide_eq_true (by first | (with_reducible assumption) | assumption)
                         have q29 : x5_4 < (a0.size : Int) := of_decide_eq_true (by first | (with_reducible assumption) | assumption)
                         have hx29 := bt_at a0 x5_4
                         replace p29 := eq_true p29
                         replace q29 := eq_true q29
                         have p38 : 0 ≤ (x5_4 : Int) := of_decide_eq_true (by first | (with_reducible assumption) | assumption)
                         have q38 : x5_4 < (a0.size : Int) := of_decide_eq_true (by first | (with_reducible assumption) | assumption)
                         have hx38 := bt_at a0 x5_4
                         replace p38 := eq_true p38
                         replace q38 := eq_true q38
                         try go_wp2
                         have n0_ := Aside0.mk (Kd.R_drew HO_4.out)
                         have n1_ := Aside0.mk (blk_drew BK131.out)
                         have n2_ := Aside0.mk (below_drew1 HB.out)
                         clear HO_4
                         clear BK131
                         clear HB
                         have HO_4 := n0_
                         have BK131 := n1_
                         have HB := n2_
                         clear n0_ n1_ n2_
                         refine start_ (n := 10) (S := fun w' => w'.cell? ⟨gb131, 0, none⟩ = some (.string (a0.extract (x5_1 : Int).toNat (x5_2 : Int).toNat)) ∧ w'.cell? ⟨gb131, 1, none⟩ = some (.string x132001_4)) (ds := [9]) #[false, false, false, false, false, false, false, false, false, false] (by kernel_rfl) rfl rfl ⟨(blk_cell BK131.out 0).trans rfl, (blk_cell BK131.out 1).trans rfl⟩ (fun hHeld => ?_); refine with_tabW spec_ReadRule.tab13 spec_ReadRule.bits13 (fun HT_ HW_ => ?_)
                         generalize wc.drew = w63 at HO_4 BK131 HB hHeld ⊢
                         refine pure_ (i := 0) (N := some 62) (v := ?_) (a' := ?_) #[true, false, false, false, false, false, false, false, false, false] rfl rfl (any_of HT_.out (by kernel_rfl)) (fun _ _ _ h => h) (Or.inl ⟨by rfl, ?_⟩) ?_ ?_
                         rotate_left
                         ·intro w'
                          go_simp
                          with_reducible rfl
                         rotate_left
                         ·simp only [Act.put, List.setIfInBounds_toArray, List.set_cons_zero, List.set_cons_succ, i64_w, i32_w]
                          rfl
                         refine pure_ (i := 2) (N := some 64) (v := ?_) (a' := ?_) #[true, false, true, false, false, false, false, false, false, false] rfl rfl (any_of HT_.out (by kernel_rfl)) (fun _ _ _ h => h) (Or.inl ⟨by rfl, ?_⟩) ?_ ?_
                         rotate_left
                         ·intro w'
                          go_simp
                          with_reducible rfl
                         rotate_left
                         ·simp only [Act.put, List.setIfInBounds_toArray, List.set_cons_zero, List.set_cons_succ, i64_w, i32_w]
                          rfl
                         refine pure_ (i := 3) (N := some 65) (v := ?_) (a' := ?_) #[true, false, true, true, false, false, false, false, false, false] rfl rfl (any_of HT_.out (by kernel_rfl)) (fun _ _ _ h => h) (Or.inl ⟨by rfl, ?_⟩) ?_ ?_
                         rotate_left
                         ·intro w'
                          go_simp
                          with_reducible rfl
                         rotate_left
                         ·simp only [Act.put, List.setIfInBounds_toArray, List.set_cons_zero, List.set_cons_succ, i64_w, i32_w]
                          rfl
                         refine pure_ (i := 4) (N := some 66) (v := ?_) (a' := ?_) #[true, false, true, true, true, false, false, false, false, false] rfl rfl (any_of HT_.out (by kernel_rfl)) (fun _ _ _ h => h) (Or.inl ⟨by rfl, ?_⟩) ?_ ?_
                         rotate_left
                         ·intro w'
                          go_simp
                          with_reducible rfl
                         rotate_left
                         ·simp only [Act.put, List.setIfInBounds_toArray, List.set_cons_zero, List.set_cons_succ, i64_w, i32_w]
                          rfl
                         refine pure_ (i := 5) (N := some 67) (v := ?_) (a' := ?_) #[true, false, true, true, true, true, false, false, false, false] rfl rfl (any_of HT_.out (by kernel_rfl)) (fun _ _ _ h => h) (Or.inl ⟨by rfl, ?_⟩) ?_ ?_
                         rotate_left
                         ·intro w'
                          go_simp
                          with_reducible rfl
                         rotate_left
                         ·simp only [Act.put, List.setIfInBounds_toArray, List.set_cons_zero, List.set_cons_succ, i64_w, i32_w]
                          rfl
                         refine pure_ (i := 6) (N := some 68) (v := ?_) (a' := ?_) #[true, false, true, true, true, true, true, false, false, false] rfl rfl (any_of HT_.out (by kernel_rfl)) (fun _ _ _ h => h) (Or.inl ⟨by rfl, ?_⟩) ?_ ?_
                         rotate_left
                         ·intro w'
                          go_simp
                          with_reducible rfl
                         rotate_left
                         ·simp only [Act.put, List.setIfInBounds_toArray, List.set_cons_zero, List.set_cons_succ, i64_w, i32_w]
                          rfl
                         refine take_ (i := 1) (N := some 63) (v := ?_) (a' := ?_) #[true, true, true, true, true, true, true, false, false, false] rfl rfl (take_ofW HT_.out HW_.out (by kernel_rfl)) (fun _ _ _ h => h) (Or.inl ⟨by rfl, ?_⟩) hHeld ?_ ?_
                         rotate_left
                         ·rintro w' ⟨s0, s1⟩
                          go_simp
                          with_reducible rfl
                         rotate_left
                         ·simp only [Act.put, List.setIfInBounds_toArray, List.set_cons_zero, List.set_cons_succ, i64_w, i32_w]
                          rfl
                         refine pure_ (i := 7) (N := some 69) (v := ?_) (a' := ?_) #[true, true, true, true, true, true, true, true, false, false] rfl rfl (any_of HT_.out (by kernel_rfl)) (fun _ _ _ h => h) (Or.inl ⟨by rfl, ?_⟩) ?_ ?_
                         rotate_left
                         ·intro w'
                          go_simp
                          with_reducible rfl
                         rotate_left
                         ·simp only [Act.put, List.setIfInBounds_toArray, List.set_cons_zero, List.set_cons_succ, i64_w, i32_w]
                          rfl
                         refine pure_ (i := 8) (N := some 70) (v := ?_) (a' := ?_) #[true, true, true, true, true, true, true, true, true, false] rfl rfl (any_of HT_.out (by kernel_rfl)) (fun _ _ _ h => h) (Or.inl ⟨by rfl, ?_⟩) ?_ ?_
                         rotate_left
                         ·intro w'
                          go_simp
                          with_reducible rfl
                         rotate_left
                         ·simp only [Act.put, List.setIfInBounds_toArray, List.set_cons_zero, List.set_cons_succ, i64_w, i32_w]
                          rfl
                         refine last_ (i := 9) (N := none) #[true, true, true, true, true, true, true, true, true, true] rfl rfl (one_of HT_.out (by kernel_rfl)) (by decide) (fun K hK => ?_)
                         have hs64 : w63.cell? ⟨gb131, 1, none⟩ = some (.string x132001_4) := (blk_cell BK131.out 1).trans rfl
                         have hfs64 := blk_frozen BK131.out 1
                         refine skip_ (w1 := ?_) (by rfl) rfl ?_ ?_
                         rotate_left
                         ·go_simp
                          rfl
                         refine hK.out _ _ ?_
                         clear hK K
                         refine done_ (done_of HT_.out (by kernel_rfl)) ?_
                         try go_wp2
                         go_roundg kj20
                         case measure => have := HK1.out; have := HJ2.out; have := HJ9.out; have := HK4.out; have := HJ20.out; omega
                         case rel => exact ⟨(wrap64 (x5_4 + 1)), (false), (x132001_4 ++ (a0.extract (x5_4 : Int).toNat ((wrap64 (x5_4 + 1)) : Int).toNat)), (by first | rfl | (simp; done) | (simp [*]; done)), (by first | rfl | (simp; done) | (simp [*]; done)), H', ⟨by have := HK1.out; have := HJ2.out; have := HJ9.out; have := HK4.out; have := HJ20.out; omega⟩, ⟨by (with_reducible repeat (first | apply Kd.R_alloc | apply Kd.R_drewN | apply Kd.R_drew)); exact Kd.R_mono (Kd.R_far (p := ⟨gb131, 1, none⟩) (Kd.R_mono HO_4.out (fun k_ hk => (⟨hk, hk⟩ : _ ∧ k_ ≠ gb131))) (fun _ hk => hk.2) (.string (x132001_4 ++ (a0.extract (x5_4 : Int).toNat ((wrap64 (x5_4 + 1)) : Int).toNat)))) (fun _ hk => hk.1)⟩, ⟨by (with_reducible repeat (first | refine blk_drewN ?_ _ | refine blk_drew ?_ | refine blk_alloc ?_ _)); refine blk_put (cs := #[.string (a0.extract (x5_1 : Int).toNat (x5_2 : Int).toNat), .string x132001_4]) ?_ 1 _ rfl; (with_reducible repeat (first | refine blk_drewN ?_ _ | refine blk_drew ?_ | refine blk_alloc ?_ _)); exact BK131.out⟩, ⟨by repeat (first | (with_reducible first | exact HB.out | apply below_alloc | apply pw_below_drewN | apply below_drew1 | refine below_set ?_ GE131.out) | exact HB.out)⟩⟩
                        ·rw [if_neg c62] at H
                         exact absurd H (by simp)
                       ·rw [if_neg c61] at H
                        exact absurd H (by simp)
                      ·rw [if_neg c60] at H
                       exact absurd H (by simp)
                  ·rw [if_neg c28] at H
                   exact absurd H (by simp)
                 ·rw [if_neg c27] at H
                  exact absurd H (by simp)
                ·replace c26 := Bool.eq_false_iff.mpr c26
                 subst c26
                 have H1 : (if x8_4 = true then (some (([] : List (S41)), false)) else (if x4_1.length < 4398046511104 then ((some (x4_1 ++ [(⟨(a0.extract (x5_1 : Int).toNat (x5_2 : Int).toNat), x132001_4⟩ : S41)] : List (S41))).bind fun y132 => (if x5_4 < (a0.size : Int) then (if (wrap64 (x5_4 + 1)) = (a0.size : Int) then (some (([] : List (S41)), false)) else (spec_ReadRule.l0 kj20 a0 y132 (wrap64 (x5_4 + 1)))) else (spec_ReadRule.l0 kj20 a0 y132 x5_4))) else (none))) = some (r1, r2) := by rw [if_neg (show ¬ (false = true) by decide)] at H; exact H
                 clear H
                 have H := H1
                 clear H1
                 by_cases c65 : x8_4 = true
                 ·subst c65
                  have H1 : (some (([] : List (S41)), false)) = some (r1, r2) := by rw [if_pos rfl] at H; exact H
                  clear H
                  have H := H1
                  clear H1
                  simp only [Option.some.injEq, Prod.mk.injEq] at H
                  obtain ⟨rfl, rfl⟩ := H
                  go_wp2
                  go_ret2
                  exact ⟨_, by first | rfl | (simp [errW_none, errW_some] <;> rfl) | (simp [*, errW_none, errW_some] <;> rfl), by first | exact Kd.R_nil _ _ _ _ _ | exact Kd.N_nil _ _ _ _ _ | exact Kd.V_nil _ _ _ _ _ | exact Kd.Q_nil _ _ _ _ _ | exact Kd.S_nil _ _ _ _ _, by repeat (first | (with_reducible first | exact HB.out | apply below_alloc | apply pw_below_drewN | apply below_drew1 | refine below_set ?_ GE131.out) | exact HB.out)⟩
                 ·replace c65 := Bool.eq_false_iff.mpr c65
                  subst c65
                  have H1 : (if x4_1.length < 4398046511104 then ((some (x4_1 ++ [(⟨(a0.extract (x5_1 : Int).toNat (x5_2 : Int).toNat), x132001_4⟩ : S41)] : List (S41))).bind fun y132 => (if x5_4 < (a0.size : Int) then (if (wrap64 (x5_4 + 1)) = (a0.size : Int) then (some (([] : List (S41)), false)) else (spec_ReadRule.l0 kj20 a0 y132 (wrap64 (x5_4 + 1)))) else (spec_ReadRule.l0 kj20 a0 y132 x5_4))) else (none)) = some (r1, r2) := by rw [if_neg (show ¬ (false = true) by decide)] at H; exact H
                  clear H
                  have H := H1
                  clear H1
                  by_cases c66 : x4_1.length < 4398046511104
                  ·rw [if_pos c66] at H
                   have LMc66 := Aside0.mk c66
                   clear c66
                   obtain ⟨y132, hy132⟩ : ∃ y_ : List (S41), y_ = (x4_1 ++ [(⟨(a0.extract (x5_1 : Int).toNat (x5_2 : Int).toNat), x132001_4⟩ : S41)]) := ⟨_, rfl⟩
                   replace H : (if x5_4 < (a0.size : Int) then (if (wrap64 (x5_4 + 1)) = (a0.size : Int) then (some (([] : List (S41)), false)) else (spec_ReadRule.l0 kj20 a0 y132 (wrap64 (x5_4 + 1)))) else (spec_ReadRule.l0 kj20 a0 y132 x5_4)) = some (r1, r2) := by first | (rw [hy132]; with_reducible exact H) | (have H2_ := (Option.bind_some _ _).symm.trans H; rw [hy132]; with_reducible exact H2_) | (have H2_ := (Option.bind_some _ _).symm.trans H; with_reducible exact H2_) | with_reducible exact H | (rw [hy132]; exact H) | exact H
                   have Ny132 := Aside0.mk hy132
                   clear hy132
                   by_cases c67 : x5_4 < (a0.size : Int)
                   ·rw [if_pos c67] at H
                    have c67b0 : decide (x5_4 < (a0.size : Int)) = true := decide_eq_true c67
                    clear c67
                    by_cases c68 : (wrap64 (x5_4 + 1)) = (a0.size : Int)
                    ·rw [if_pos c68] at H
                     have c68b0 : ((wrap64 (x5_4 + 1)) == (a0.size : Int)) = true := beq_iff_eq.mpr c68
                     have c68b1 : ((wrap64 (x5_4 + 1)) != (a0.size : Int)) = false := bne_eq_false_iff_eq.mpr c68
                     clear c68
                     simp only [Option.some.injEq, Prod.mk.injEq] at H
                     obtain ⟨rfl, rfl⟩ := H
                     have hcz69_0 : wc.cell? ⟨gb131, 0, none⟩ = some (.string (a0.extract (x5_1 : Int).toNat (x5_2 : Int).toNat)) := (blk_cell BK131.out 0).trans rfl
                     have hcz69_1 : wc.cell? ⟨gb131, 1, none⟩ = some (.string x132001_4) := (blk_cell BK131.out 1).trans rfl
                     have hfz69_0 := blk_frozen BK131.out 0
                     have hfz69_1 := blk_frozen BK131.out 1
                     go_wp2_with (first | ((with_reducible refine gate_builtin (b := .append) (xs := #[.tmp 110, .tmp 112]) rfl ?_); (try (refine gate_guard (by rfl) ?_; dsimp only)); at_builtin; refine Kd.R_append k41 (w0 := w) w.heap.size rfl (.tmp 110) (.tmp 112) 36 41 (.agg #[(.string ⟨#[]⟩), (.string ⟨#[]⟩)]) 32 rfl Tryd.underlying36 info41 rfl (by decide) (by omega) u4 x4_1 (⟨(a0.extract (x5_1 : Int).toNat (x5_2 : Int).toNat), x132001_4⟩ : S41) [.string (a0.extract (x5_1 : Int).toNat (x5_2 : Int).toNat), .string x132001_4] (fun k_ => k_ ≠ gb131) (fun _ => False) rfl rfl ?aP (fun _ hk => hk.elim) ?aF ?aO ?aB ?aS ?aL ?_; (case aP => exact k41_mkM _ _ _ (⟨(a0.extract (x5_1 : Int).toNat (x5_2 : Int).toNat), x132001_4⟩ : S41)); (case aB => exact (by repeat (first | (with_reducible first | exact HB.out | apply below_alloc | apply pw_below_drewN | apply below_drew1 | refine below_set ?_ GE131.out) | exact HB.out))); (case aF => exact (fun k_ hk => Kd.freshB (g := gb131) (o := .cells #[.string (a0.extract (x5_1 : Int).toNat (x5_2 : Int).toNat), .string x132001_4] 41 (0, 0)) (by (with_reducible repeat (first | refine blk_drewN ?_ _ | refine blk_drew ?_ | refine blk_alloc ?_ _)); exact BK131.out) k_ hk)); (case aO => exact (by (with_reducible repeat (first | apply Kd.R_alloc | apply Kd.R_drewN | apply Kd.R_drew)); exact HO_4.out)); (case aS => exact (below_size (by repeat (first | (with_reducible first | exact HB.out | apply below_alloc | apply pw_below_drewN | apply below_drew1 | refine below_set ?_ GE131.out) | exact HB.out)))); (case aL => have := LMc66.out; omega); intro v133 w70 ho hb hg hat; rw [← Ny132.out] at ho; have n0_ := Aside0.mk (blk_grown (g := gb131) (o := .cells #[.string (a0.extract (x5_1 : Int).toNat (x5_2 : Int).toNat), .string x132001_4] 41 (0, 0)) (by (with_reducible repeat (first | refine blk_drewN ?_ _ | refine blk_drew ?_ | refine blk_alloc ?_ _)); exact BK131.out) hg (Kd.R_away HO_4.out (fun _ hk => hk))); have n1_ := Aside0.mk (hb); have n2_ := Aside0.mk (ho); clear BK131; clear HB; clear HO_4; have BK131 := n0_; have HB := n1_; have HO134 := n2_; clear n0_ n1_ n2_; clear ho hb hg hat))
                     go_ret2
                     exact ⟨_, by first | rfl | (simp [errW_none, errW_some] <;> rfl) | (simp [*, errW_none, errW_some] <;> rfl), by first | exact Kd.R_nil _ _ _ _ _ | exact Kd.N_nil _ _ _ _ _ | exact Kd.V_nil _ _ _ _ _ | exact Kd.Q_nil _ _ _ _ _ | exact Kd.S_nil _ _ _ _ _, by repeat (first | (with_reducible first | exact HB.out | apply below_alloc | apply pw_below_drewN | apply below_drew1 | refine below_set ?_ GE131.out) | exact HB.out)⟩
                    ·rw [if_neg c68] at H
                     have c68b0 : ((wrap64 (x5_4 + 1)) == (a0.size : Int)) = false := beq_eq_false_iff_ne.mpr c68
                     have c68b1 : ((wrap64 (x5_4 + 1)) != (a0.size : Int)) = true := bne_iff_ne.mpr c68
                     have H' := Aside0.mk H
                     clear H
                     have hcz71_0 : wc.cell? ⟨gb131, 0, none⟩ = some (.string (a0.extract (x5_1 : Int).toNat (x5_2 : Int).toNat)) := (blk_cell BK131.out 0).trans rfl
                     have hcz71_1 : wc.cell? ⟨gb131, 1, none⟩ = some (.string x132001_4) := (blk_cell BK131.out 1).trans rfl
                     have hfz71_0 := blk_frozen BK131.out 0
                     have hfz71_1 := blk_frozen BK131.out 1
                     go_wp2_with (first | ((with_reducible refine gate_builtin (b := .append) (xs := #[.tmp 110, .tmp 112]) rfl ?_); (try (refine gate_guard (by rfl) ?_; dsimp only)); at_builtin; refine Kd.R_append k41 (w0 := w) w.heap.size rfl (.tmp 110) (.tmp 112) 36 41 (.agg #[(.string ⟨#[]⟩), (.string ⟨#[]⟩)]) 32 rfl Tryd.underlying36 info41 rfl (by decide) (by omega) u4 x4_1 (⟨(a0.extract (x5_1 : Int).toNat (x5_2 : Int).toNat), x132001_4⟩ : S41) [.string (a0.extract (x5_1 : Int).toNat (x5_2 : Int).toNat), .string x132001_4] (fun k_ => k_ ≠ gb131) (fun _ => False) rfl rfl ?aP (fun _ hk => hk.elim) ?aF ?aO ?aB ?aS ?aL ?_; (case aP => exact k41_mkM _ _ _ (⟨(a0.extract (x5_1 : Int).toNat (x5_2 : Int).toNat), x132001_4⟩ : S41)); (case aB => exact (by repeat (first | (with_reducible first | exact HB.out | apply below_alloc | apply pw_below_drewN | apply below_drew1 | refine below_set ?_ GE131.out) | exact HB.out))); (case aF => exact (fun k_ hk => Kd.freshB (g := gb131) (o := .cells #[.string (a0.extract (x5_1 : Int).toNat (x5_2 : Int).toNat), .string x132001_4] 41 (0, 0)) (by (with_reducible repeat (first | refine blk_drewN ?_ _ | refine blk_drew ?_ | refine blk_alloc ?_ _)); exact BK131.out) k_ hk)); (case aO => exact (by (with_reducible repeat (first | apply Kd.R_alloc | apply Kd.R_drewN | apply Kd.R_drew)); exact HO_4.out)); (case aS => exact (below_size (by repeat (first | (with_reducible first | exact HB.out | apply below_alloc | apply pw_below_drewN | apply below_drew1 | refine below_set ?_ GE131.out) | exact HB.out)))); (case aL => have := LMc66.out; omega); intro v133 w72 ho hb hg hat; rw [← Ny132.out] at ho; have n0_ := Aside0.mk (blk_grown (g := gb131) (o := .cells #[.string (a0.extract (x5_1 : Int).toNat (x5_2 : Int).toNat), .string x132001_4] 41 (0, 0)) (by (with_reducible repeat (first | refine blk_drewN ?_ _ | refine blk_drew ?_ | refine blk_alloc ?_ _)); exact BK131.out) hg (Kd.R_away HO_4.out (fun _ hk => hk))); have n1_ := Aside0.mk (hb); have n2_ := Aside0.mk (ho); clear BK131; clear HB; clear HO_4; have BK131 := n0_; have HB := n1_; have HO134 := n2_; clear n0_ n1_ n2_; clear ho hb hg hat))
                     go_roundg kj20
                     case measure => have := HK1.out; have := HJ2.out; have := HJ9.out; have := HK4.out; have := HJ20.out; omega
                     case rel => exact ⟨(y132), (wrap64 (x5_4 + 1)), (by first | rfl | (simp; done) | (simp [*]; done)), H', ⟨by have := HK1.out; have := HJ2.out; have := HJ9.out; have := HK4.out; have := HJ20.out; omega⟩, ⟨by (with_reducible repeat (first | apply Kd.R_alloc | apply Kd.R_drewN | apply Kd.R_drew)); exact Kd.R_mono HO134.out (fun _ hk => trivial)⟩, ⟨by repeat (first | (with_reducible first | exact HB.out | apply below_alloc | apply pw_below_drewN | apply below_drew1 | refine below_set ?_ GE131.out) | exact HB.out)⟩⟩
                   ·rw [if_neg c67] at H
                    have c67b0 : decide (x5_4 < (a0.size : Int)) = false := decide_eq_false c67
                    clear c67
                    have H' := Aside0.mk H
                    clear H
                    have hcz73_0 : wc.cell? ⟨gb131, 0, none⟩ = some (.string (a0.extract (x5_1 : Int).toNat (x5_2 : Int).toNat)) := (blk_cell BK131.out 0).trans rfl
                    have hcz73_1 : wc.cell? ⟨gb131, 1, none⟩ = some (.string x132001_4) := (blk_cell BK131.out 1).trans rfl
                    have hfz73_0 := blk_frozen BK131.out 0
                    have hfz73_1 := blk_frozen BK131.out 1
                    go_wp2_with (first | ((with_reducible refine gate_builtin (b := .append) (xs := #[.tmp 110, .tmp 112]) rfl ?_); (try (refine gate_guard (by rfl) ?_; dsimp only)); at_builtin; refine Kd.R_append k41 (w0 := w) w.heap.size rfl (.tmp 110) (.tmp 112) 36 41 (.agg #[(.string ⟨#[]⟩), (.string ⟨#[]⟩)]) 32 rfl Tryd.underlying36 info41 rfl (by decide) (by omega) u4 x4_1 (⟨(a0.extract (x5_1 : Int).toNat (x5_2 : Int).toNat), x132001_4⟩ : S41) [.string (a0.extract (x5_1 : Int).toNat (x5_2 : Int).toNat), .string x132001_4] (fun k_ => k_ ≠ gb131) (fun _ => False) rfl rfl ?aP (fun _ hk => hk.elim) ?aF ?aO ?aB ?aS ?aL ?_; (case aP => exact k41_mkM _ _ _ (⟨(a0.extract (x5_1 : Int).toNat (x5_2 : Int).toNat), x132001_4⟩ : S41)); (case aB => exact (by repeat (first | (with_reducible first | exact HB.out | apply below_alloc | apply pw_below_drewN | apply below_drew1 | refine below_set ?_ GE131.out) | exact HB.out))); (case aF => exact (fun k_ hk => Kd.freshB (g := gb131) (o := .cells #[.string (a0.extract (x5_1 : Int).toNat (x5_2 : Int).toNat), .string x132001_4] 41 (0, 0)) (by (with_reducible repeat (first | refine blk_drewN ?_ _ | refine blk_drew ?_ | refine blk_alloc ?_ _)); exact BK131.out) k_ hk)); (case aO => exact (by (with_reducible repeat (first | apply Kd.R_alloc | apply Kd.R_drewN | apply Kd.R_drew)); exact HO_4.out)); (case aS => exact (below_size (by repeat (first | (with_reducible first | exact HB.out | apply below_alloc | apply pw_below_drewN | apply below_drew1 | refine below_set ?_ GE131.out) | exact HB.out)))); (case aL => have := LMc66.out; omega); intro v133 w74 ho hb hg hat; rw [← Ny132.out] at ho; have n0_ := Aside0.mk (blk_grown (g := gb131) (o := .cells #[.string (a0.extract (x5_1 : Int).toNat (x5_2 : Int).toNat), .string x132001_4] 41 (0, 0)) (by (with_reducible repeat (first | refine blk_drewN ?_ _ | refine blk_drew ?_ | refine blk_alloc ?_ _)); exact BK131.out) hg (Kd.R_away HO_4.out (fun _ hk => hk))); have n1_ := Aside0.mk (hb); have n2_ := Aside0.mk (ho); clear BK131; clear HB; clear HO_4; have BK131 := n0_; have HB := n1_; have HO134 := n2_; clear n0_ n1_ n2_; clear ho hb hg hat))
                    go_roundg kj20
                    case measure => have := HK1.out; have := HJ2.out; have := HJ9.out; have := HK4.out; have := HJ20.out; omega
                    case rel => exact ⟨(y132), (x5_4), (by first | rfl | (simp; done) | (simp [*]; done)), H', ⟨by have := HK1.out; have := HJ2.out; have := HJ9.out; have := HK4.out; have := HJ20.out; omega⟩, ⟨by (with_reducible repeat (first | apply Kd.R_alloc | apply Kd.R_drewN | apply Kd.R_drew)); exact Kd.R_mono HO134.out (fun _ hk => trivial)⟩, ⟨by repeat (first | (with_reducible first | exact HB.out | apply below_alloc | apply pw_below_drewN | apply below_drew1 | refine below_set ?_ GE131.out) | exact HB.out)⟩⟩
                  ·rw [if_neg c66] at H
                   exact absurd H (by simp)
           ·rw [if_neg c18] at H
            exact absurd H (by simp)
          ·rw [if_neg c17] at H
           exact absurd H (by simp)
         ·rw [if_neg c16] at H
          exact absurd H (by simp)
   ·rw [if_neg c2] at H
    have c2b0 : decide (x5_1 < (a0.size : Int)) = false := decide_eq_false c2
    clear c2
    simp only [Option.some.injEq, Prod.mk.injEq] at H
    obtain ⟨rfl, rfl⟩ := H
    go_wp2
    go_ret2
    exact ⟨_, by first | rfl | (simp [errW_none, errW_some] <;> rfl) | (simp [*, errW_none, errW_some] <;> rfl), by (with_reducible repeat (first | apply Kd.R_alloc | apply Kd.R_drewN | apply Kd.R_drew)); exact HO_4.out, by repeat (first | (with_reducible first | exact HB.out | apply below_alloc | apply pw_below_drewN | apply below_drew1) | exact HB.out)⟩

end Go.Proofs.YtoldgnmgjpjapaaDoor.Q
