-- Written by a program of this session out of the translation; Lean checks it.
import Derived.Test.YtheopfecoakhnaaY0
import Derived.Test.YtheopfecoakhnaaY1
import Derived.Test.YtheopfecoakhnaaY2
namespace Go.Proofs.Ytheopfecoakhnaa.Y
open Go.RowKit Go.Proofs.Ytheopfecoakhnaa.Clo Go.Proofs.Ytheopfecoakhnaa.Ext Go.Proofs.YtheopfecoakhnaaW.PrintWords Go.Proofs.YtheopfecoakhnaaW.PrintLast Go.Proofs.YtheopfecoakhnaaW.PrintMore
attribute [local go_sem] max2_int min2_int max_two min_two max_three min_three max_four min_four   -- for this text's walks alone
set_option linter.unusedVariables false
set_option linter.unusedSimpArgs false

/-! ### spec_named: function 19 -/
mutual
def spec_named.l0 : Nat → Bool → Bool → List ByteArray → Int → Int → Option (Bool)
  | 0, _, _, _, _, _ => none
  | k + 1, x1, x2, x11, x12, x13 => if x13 < x12 then (if 0 ≤ x13 then (if x13 < (x11.length : Int) then (if (rdOf ByteArray.empty x11 x13).toList = ([] : List UInt8) then (spec_named.j1 k x1 x2 (rdOf ByteArray.empty x11 x13) x11 x12 x13 true) else (if x2 = true then (spec_named.j1 k x1 x2 (rdOf ByteArray.empty x11 x13) x11 x12 x13 false) else (if 0 < ((rdOf ByteArray.empty x11 x13).size : Int) then (if (bt (rdOf ByteArray.empty x11 x13) 0) ≥ 48 then (spec_named.j1 k x1 x2 (rdOf ByteArray.empty x11 x13) x11 x12 x13 (decide ((bt (rdOf ByteArray.empty x11 x13) 0) ≤ 57))) else (spec_named.j1 k x1 x2 (rdOf ByteArray.empty x11 x13) x11 x12 x13 false)) else (none)))) else (none)) else (none)) else (some true)
def spec_named.j1 : Nat → Bool → Bool → ByteArray → List ByteArray → Int → Int → Bool → Option (Bool)
  | 0, _, _, _, _, _, _, _ => none
  | k + 1, x1, x2, x8, x11, x12, x13, x32 => if x32 = true then (some false) else (spec_named.l1 k x1 x2 x8 0 x11 x12 x13)
def spec_named.l1 : Nat → Bool → Bool → ByteArray → Int → List ByteArray → Int → Int → Option (Bool)
  | 0, _, _, _, _, _, _, _ => none
  | k + 1, x1, x2, x8, x9, x11, x12, x13 => if x9 < (x8.size : Int) then (if 0 ≤ x9 then ((spec_word.f (bt x8 x9)).bind fun t120 => (if t120 = true then (spec_named.l1 k x1 x2 x8 (wrap64 (x9 + 1)) x11 x12 x13) else (if x1 = true then (if (bt x8 x9) = 45 then (spec_named.l1 k x1 x2 x8 (wrap64 (x9 + 1)) x11 x12 x13) else (some false)) else (some false)))) else (none)) else (spec_named.l0 k x1 x2 x11 x12 (wrap64 (x13 + 1)))
end
def spec_named.f (k : Nat) (a0 : ByteArray) (a1 : Bool) (a2 : Bool) : Option (Bool) := (spec_Split.f k a0 46).bind fun t116 => (spec_named.l0 k a1 a2 t116 (t116.length : Int) 0)
theorem spec_named.mono_l : ∀ k, (∀ y0 y1 y2 y3 y4, LeO (spec_named.l0 k y0 y1 y2 y3 y4) (spec_named.l0 (k + 1) y0 y1 y2 y3 y4)) ∧ (∀ y0 y1 y2 y3 y4 y5 y6, LeO (spec_named.j1 k y0 y1 y2 y3 y4 y5 y6) (spec_named.j1 (k + 1) y0 y1 y2 y3 y4 y5 y6)) ∧ (∀ y0 y1 y2 y3 y4 y5 y6, LeO (spec_named.l1 k y0 y1 y2 y3 y4 y5 y6) (spec_named.l1 (k + 1) y0 y1 y2 y3 y4 y5 y6))
  | 0 => ⟨fun _ _ _ _ _ r h => by simp [spec_named.l0] at h, fun _ _ _ _ _ _ _ r h => by simp [spec_named.j1] at h, fun _ _ _ _ _ _ _ r h => by simp [spec_named.l1] at h⟩
  | k + 1 => by
    obtain ⟨ih0, ih1, ih2⟩ := spec_named.mono_l k
    refine ⟨?_, ?_, ?_⟩
    · intro y0 y1 y2 y3 y4
      unfold spec_named.l0
      repeat' first
      | (with_reducible exact ih0 _ _ _ _ _)
      | (with_reducible exact ih1 _ _ _ _ _ _ _)
      | (with_reducible exact ih2 _ _ _ _ _ _ _)
      | (with_reducible exact spec_Split.mono _ _ _)
      | (with_reducible exact LeO.refl _)
      | (with_reducible exact LeO.none _)
      | (with_reducible refine LeO.ite ?_ ?_)
      | (with_reducible refine LeO.bind ?_ (fun _ => ?_))
      | exact ih0 _ _ _ _ _
      | exact ih1 _ _ _ _ _ _ _
      | exact ih2 _ _ _ _ _ _ _
      | exact spec_Split.mono _ _ _
      | exact LeO.none _
      | refine LeO.ite ?_ ?_
      | refine LeO.bind ?_ (fun _ => ?_)
    · intro y0 y1 y2 y3 y4 y5 y6
      unfold spec_named.j1
      repeat' first
      | (with_reducible exact ih0 _ _ _ _ _)
      | (with_reducible exact ih1 _ _ _ _ _ _ _)
      | (with_reducible exact ih2 _ _ _ _ _ _ _)
      | (with_reducible exact spec_Split.mono _ _ _)
      | (with_reducible exact LeO.refl _)
      | (with_reducible exact LeO.none _)
      | (with_reducible refine LeO.ite ?_ ?_)
      | (with_reducible refine LeO.bind ?_ (fun _ => ?_))
      | exact ih0 _ _ _ _ _
      | exact ih1 _ _ _ _ _ _ _
      | exact ih2 _ _ _ _ _ _ _
      | exact spec_Split.mono _ _ _
      | exact LeO.none _
      | refine LeO.ite ?_ ?_
      | refine LeO.bind ?_ (fun _ => ?_)
    · intro y0 y1 y2 y3 y4 y5 y6
      unfold spec_named.l1
      repeat' first
      | (with_reducible exact ih0 _ _ _ _ _)
      | (with_reducible exact ih1 _ _ _ _ _ _ _)
      | (with_reducible exact ih2 _ _ _ _ _ _ _)
      | (with_reducible exact spec_Split.mono _ _ _)
      | (with_reducible exact LeO.refl _)
      | (with_reducible exact LeO.none _)
      | (with_reducible refine LeO.ite ?_ ?_)
      | (with_reducible refine LeO.bind ?_ (fun _ => ?_))
      | exact ih0 _ _ _ _ _
      | exact ih1 _ _ _ _ _ _ _
      | exact ih2 _ _ _ _ _ _ _
      | exact spec_Split.mono _ _ _
      | exact LeO.none _
      | refine LeO.ite ?_ ?_
      | refine LeO.bind ?_ (fun _ => ?_)
theorem spec_named.mono : ∀ a0 a1 a2 k, LeO (spec_named.f k a0 a1 a2) (spec_named.f (k + 1) a0 a1 a2) := by
  intro a0 a1 a2 k
  obtain ⟨ih0, ih1, ih2⟩ := spec_named.mono_l k
  unfold spec_named.f
  repeat' first
      | (with_reducible exact ih0 _ _ _ _ _)
      | (with_reducible exact ih1 _ _ _ _ _ _ _)
      | (with_reducible exact ih2 _ _ _ _ _ _ _)
      | (with_reducible exact spec_Split.mono _ _ _)
      | (with_reducible exact LeO.refl _)
      | (with_reducible exact LeO.none _)
      | (with_reducible refine LeO.ite ?_ ?_)
      | (with_reducible refine LeO.bind ?_ (fun _ => ?_))
      | exact ih0 _ _ _ _ _
      | exact ih1 _ _ _ _ _ _ _
      | exact ih2 _ _ _ _ _ _ _
      | exact spec_Split.mono _ _ _
      | exact LeO.none _
      | refine LeO.ite ?_ ?_
      | refine LeO.bind ?_ (fun _ => ?_)
set_option maxHeartbeats 8000000 in
set_option maxRecDepth 100000 in
theorem spec_named.calls (k : Nat) (a0 : ByteArray) (a1 : Bool) (a2 : Bool) (r : Bool) (w : World) (h : spec_named.f k a0 a1 a2 = some r) :
    Calls Try.prog 19 #[.string a0, .bool a1, .bool a2] w fun e w' => e = .returned (.bool r) ∧ Below w.heap.size w w' := by
  have HB := Aside0.mk (Below.refl w.heap.size w)
  have H : ((spec_Split.f k a0 46).bind fun t116 => (spec_named.l0 k a1 a2 t116 (t116.length : Int) 0)) = some r := h
  clear h
  replace H := Option.bind_eq_some_iff.mp H
  obtain ⟨t116, A40, H⟩ := H
  replace H : (spec_named.l0 k a1 a2 t116 (t116.length : Int) 0) = some r := H
  have A4 := Aside0.mk A40
  clear A40
  have H' := Aside0.mk H
  clear H
  go_enter Try.func19, Try.ntmps19
  go_wp2_with (first | ((with_reducible refine gate_callee (f := 24) rfl ?_); refine goesL_ (some 11) rfl rfl Try.func24 (by kernel_rfl) rfl #[.string a0, .int .u8 46] rfl (by (try simp only [List.map_toArray, List.map_cons, List.map_nil]); first | done | rfl | (simp only [List.length_drop, List.length_take]; rfl)) ?_; (with_reducible refine (spec_Split.calls k a0 46 t116 _ A4.out).mono ?_); rintro e w5 ⟨v117, rfl, ho0, hb⟩; refine ⟨_, rfl, ?_⟩; have n0_ := Aside0.mk (Kd.R_lower ho0 (below_size (by repeat (first | (with_reducible first | exact HB.out | apply below_alloc | apply pw_below_drewN | apply below_drew1) | exact HB.out)))); have n1_ := Aside0.mk (below_step (by repeat (first | (with_reducible first | exact HB.out | apply below_alloc | apply pw_below_drewN | apply below_drew1) | exact HB.out)) hb); clear HB; have HO118 := n0_; have HB := n1_; clear n0_ n1_; (try clear hb); (try clear hb2); (try clear hk); (try clear hi); (try clear ho0); obtain ⟨Ao6, co6, eo6⟩ := Kd.R_slice HO118.out; subst eo6))
  go_loopg [13] k (fun kq v13 w' => ∃ (x13_1 : Int), v13 = .int .i64 x13_1 ∧ Aside0 (spec_named.l0 kq a1 a2 t116 (t116.length : Int) x13_1 = some r) ∧ Aside0 (kq ≤ k) ∧ Aside0 (Kd.R Kd.string 9 w' w.heap.size (fun _ => True) (.slice Ao6 t116.length co6) t116) ∧ Aside0 (Below w.heap.size w w'))
  case atStart => exact ⟨(0), (by first | rfl | (simp; done) | (simp [*]; done)), H', ⟨Nat.le_refl _⟩, ⟨by (with_reducible repeat (first | apply Kd.R_alloc | apply Kd.R_drewN | apply Kd.R_drew)); exact HO118.out⟩, ⟨by repeat (first | (with_reducible first | exact HB.out | apply below_alloc | apply pw_below_drewN | apply below_drew1) | exact HB.out)⟩⟩
  case round =>
    clear H'
    try clear c1
    try clear c2
    try clear p2
    obtain ⟨x13_1, rfl, HA, HK1, HO_11, HB⟩ := hrel
    cases gk with
    | zero => exact absurd HA.out (by simp [spec_named.l0])
    | succ k1 =>
      have H := HA.out
      clear HA
      simp only [spec_named.l0] at H
      by_cases c7 : x13_1 < (t116.length : Int)
      · rw [if_pos c7] at H
        have c7b0 : decide (x13_1 < (t116.length : Int)) = true := decide_eq_true c7
        clear c7
        by_cases c8 : 0 ≤ x13_1
        · rw [if_pos c8] at H
          have c8b0 : decide (0 ≤ x13_1) = true := decide_eq_true c8
          clear c8
          by_cases c9 : x13_1 < (t116.length : Int)
          · rw [if_pos c9] at H
            have c9b0 : decide (x13_1 < (t116.length : Int)) = true := decide_eq_true c9
            clear c9
            have HC10 := Aside0.mk H
            clear H
            have p119 : 0 ≤ (x13_1 : Int) := of_decide_eq_true (by first | (with_reducible assumption) | assumption)
            have q119 : x13_1 < (t116.length : Int) := of_decide_eq_true (by first | (with_reducible assumption) | assumption)
            obtain ⟨ad119, e119, hx119_0⟩ := Kd.at_string (Kd.R_reads' HO_11.out).2.2 x13_1 p119 q119
            cases e119
            replace p119 := eq_true p119
            replace q119 := eq_true q119
            go_upto_region 4 with (fail)
            go_cut [32] (fun v32 wc => ∃ (kq : Nat) (x32_9 : Bool), v32 = .bool x32_9 ∧ Aside0 (spec_named.j1 kq a1 a2 (rdOf ByteArray.empty t116 x13_1) t116 (t116.length : Int) x13_1 x32_9 = some r) ∧ Aside0 (kq ≤ k1) ∧ Aside0 (Kd.R Kd.string 9 wc w.heap.size (fun _ => True) (.slice (some ad119) t116.length co6) t116) ∧ Aside0 (Below w.heap.size w wc))
            case first =>
              have H := HC10.out
              clear HC10
              by_cases c11 : (rdOf ByteArray.empty t116 x13_1).toList = ([] : List UInt8)
              · rw [if_pos c11] at H
                have c11b0 : ((rdOf ByteArray.empty t116 x13_1).toList == ([] : List UInt8)) = true := beq_iff_eq.mpr c11
                have c11b1 : ((rdOf ByteArray.empty t116 x13_1).toList != ([] : List UInt8)) = false := bne_eq_false_iff_eq.mpr c11
                clear c11
                (first | rw [c11b0] | (simp only [i64_w, i32_w]; rw [c11b0]) | skip)
                have H' := Aside0.mk H
                clear H
                go_wp2
                go_meet
                case rel => exact ⟨_, (true), (by first | rfl | (simp; done) | (simp [*]; done)), H', ⟨by have := HK1.out; first | omega | exact Nat.le_refl _⟩, ⟨by (with_reducible repeat (first | apply Kd.R_alloc | apply Kd.R_drewN | apply Kd.R_drew)); exact HO_11.out⟩, ⟨by repeat (first | (with_reducible first | exact HB.out | apply below_alloc | apply pw_below_drewN | apply below_drew1) | exact HB.out)⟩⟩
              · rw [if_neg c11] at H
                have c11b0 : ((rdOf ByteArray.empty t116 x13_1).toList == ([] : List UInt8)) = false := beq_eq_false_iff_ne.mpr c11
                have c11b1 : ((rdOf ByteArray.empty t116 x13_1).toList != ([] : List UInt8)) = true := bne_iff_ne.mpr c11
                (first | rw [c11b0] | (simp only [i64_w, i32_w]; rw [c11b0]) | skip)
                by_cases c12 : a2 = true
                · subst c12
                  have H1 : (spec_named.j1 k1 a1 true (rdOf ByteArray.empty t116 x13_1) t116 (t116.length : Int) x13_1 false) = some r := by rw [if_pos rfl] at H; exact H
                  clear H
                  have H := H1
                  clear H1
                  have H' := Aside0.mk H
                  clear H
                  go_wp2
                  go_meet
                  case rel => exact ⟨_, (false), (by first | rfl | (simp; done) | (simp [*]; done)), H', ⟨by have := HK1.out; first | omega | exact Nat.le_refl _⟩, ⟨by (with_reducible repeat (first | apply Kd.R_alloc | apply Kd.R_drewN | apply Kd.R_drew)); exact HO_11.out⟩, ⟨by repeat (first | (with_reducible first | exact HB.out | apply below_alloc | apply pw_below_drewN | apply below_drew1) | exact HB.out)⟩⟩
                · replace c12 := Bool.eq_false_iff.mpr c12
                  subst c12
                  have H1 : (if 0 < ((rdOf ByteArray.empty t116 x13_1).size : Int) then (if (bt (rdOf ByteArray.empty t116 x13_1) 0) ≥ 48 then (spec_named.j1 k1 a1 false (rdOf ByteArray.empty t116 x13_1) t116 (t116.length : Int) x13_1 (decide ((bt (rdOf ByteArray.empty t116 x13_1) 0) ≤ 57))) else (spec_named.j1 k1 a1 false (rdOf ByteArray.empty t116 x13_1) t116 (t116.length : Int) x13_1 false)) else (none)) = some r := by rw [if_neg (show ¬ (false = true) by decide)] at H; exact H
                  clear H
                  have H := H1
                  clear H1
                  by_cases c13 : 0 < ((rdOf ByteArray.empty t116 x13_1).size : Int)
                  · rw [if_pos c13] at H
                    have c13b0 : decide (0 < ((rdOf ByteArray.empty t116 x13_1).size : Int)) = true := decide_eq_true c13
                    have c13b1 : decide (0 < (rdOf ByteArray.empty t116 x13_1).size) = true := decide_eq_true (by omega)
                    clear c13
                    by_cases c15 : (bt (rdOf ByteArray.empty t116 x13_1) 0) ≥ 48
                    · rw [if_pos c15] at H
                      have c15b0 : decide (48 ≤ (bt (rdOf ByteArray.empty t116 x13_1) 0)) = true := decide_eq_true c15
                      clear c15
                      have H' := Aside0.mk H
                      clear H
                      have p14 : 0 ≤ (0 : Int) := (by omega)
                      have q14 : 0 < (rdOf ByteArray.empty t116 x13_1).size := (by have : (0 : Int) < ((rdOf ByteArray.empty t116 x13_1).size : Int) := of_decide_eq_true (by first | (with_reducible assumption) | assumption); omega)
                      have hx14 : ∀ h : 0 < (rdOf ByteArray.empty t116 x13_1).size, (((rdOf ByteArray.empty t116 x13_1)[0]'h).toNat : Int) = bt (rdOf ByteArray.empty t116 x13_1) 0 := bt_at (rdOf ByteArray.empty t116 x13_1) 0
                      clear p14
                      have qi14 : (0 < ((rdOf ByteArray.empty t116 x13_1).size : Int)) = True := eq_true (of_decide_eq_true (by first | (with_reducible assumption) | assumption))
                      replace q14 := eq_true q14
                      have p16 : 0 ≤ (0 : Int) := (by omega)
                      have q16 : 0 < (rdOf ByteArray.empty t116 x13_1).size := (by have : (0 : Int) < ((rdOf ByteArray.empty t116 x13_1).size : Int) := of_decide_eq_true (by first | (with_reducible assumption) | assumption); omega)
                      have hx16 : ∀ h : 0 < (rdOf ByteArray.empty t116 x13_1).size, (((rdOf ByteArray.empty t116 x13_1)[0]'h).toNat : Int) = bt (rdOf ByteArray.empty t116 x13_1) 0 := bt_at (rdOf ByteArray.empty t116 x13_1) 0
                      clear p16
                      have qi16 : (0 < ((rdOf ByteArray.empty t116 x13_1).size : Int)) = True := eq_true (of_decide_eq_true (by first | (with_reducible assumption) | assumption))
                      replace q16 := eq_true q16
                      go_wp2
                      go_meet
                      case rel => exact ⟨_, (decide ((bt (rdOf ByteArray.empty t116 x13_1) 0) ≤ 57)), (by first | rfl | (simp; done) | (simp [*]; done)), H', ⟨by have := HK1.out; first | omega | exact Nat.le_refl _⟩, ⟨by (with_reducible repeat (first | apply Kd.R_alloc | apply Kd.R_drewN | apply Kd.R_drew)); exact HO_11.out⟩, ⟨by repeat (first | (with_reducible first | exact HB.out | apply below_alloc | apply pw_below_drewN | apply below_drew1) | exact HB.out)⟩⟩
                    · rw [if_neg c15] at H
                      have c15b0 : decide (48 ≤ (bt (rdOf ByteArray.empty t116 x13_1) 0)) = false := decide_eq_false c15
                      clear c15
                      have H' := Aside0.mk H
                      clear H
                      have p14 : 0 ≤ (0 : Int) := (by omega)
                      have q14 : 0 < (rdOf ByteArray.empty t116 x13_1).size := (by have : (0 : Int) < ((rdOf ByteArray.empty t116 x13_1).size : Int) := of_decide_eq_true (by first | (with_reducible assumption) | assumption); omega)
                      have hx14 : ∀ h : 0 < (rdOf ByteArray.empty t116 x13_1).size, (((rdOf ByteArray.empty t116 x13_1)[0]'h).toNat : Int) = bt (rdOf ByteArray.empty t116 x13_1) 0 := bt_at (rdOf ByteArray.empty t116 x13_1) 0
                      clear p14
                      have qi14 : (0 < ((rdOf ByteArray.empty t116 x13_1).size : Int)) = True := eq_true (of_decide_eq_true (by first | (with_reducible assumption) | assumption))
                      replace q14 := eq_true q14
                      go_wp2
                      go_meet
                      case rel => exact ⟨_, (false), (by first | rfl | (simp; done) | (simp [*]; done)), H', ⟨by have := HK1.out; first | omega | exact Nat.le_refl _⟩, ⟨by (with_reducible repeat (first | apply Kd.R_alloc | apply Kd.R_drewN | apply Kd.R_drew)); exact HO_11.out⟩, ⟨by repeat (first | (with_reducible first | exact HB.out | apply below_alloc | apply pw_below_drewN | apply below_drew1) | exact HB.out)⟩⟩
                  · rw [if_neg c13] at H
                    exact absurd H (by simp)
            case rest =>
              clear HC10
              try clear c1
              try clear p1
              try clear q1
              try clear hx1
              try clear qi1
              try clear c2
              try clear p2
              try clear c7
              try clear c7b0
              try clear c8
              try clear c8b0
              try clear c9
              try clear c9b0
              try clear c11
              try clear c11b0
              try clear c11b1
              try clear p11
              try clear q11
              try clear hx11
              try clear c12
              try clear c13
              try clear c13b0
              try clear c13b1
              try clear p14
              try clear q14
              try clear hx14
              try clear qi14
              try clear c15
              try clear c15b0
              try clear p16
              try clear q16
              try clear hx16
              try clear qi16
              try clear hx119_0
              try clear p119
              try clear p14
              try clear p16
              try clear p2
              try clear q119
              try clear q14
              try clear q16
              obtain ⟨kq, x32_9, rfl, HA, HJ9, HO_11, HB⟩ := hcut
              cases kq with
              | zero => exact absurd HA.out (by simp [spec_named.j1])
              | succ kj9 =>
                have H := HA.out
                clear HA
                simp only [spec_named.j1] at H
                by_cases c17 : x32_9 = true
                · subst c17
                  have H1 : (some false) = some r := by rw [if_pos rfl] at H; exact H
                  clear H
                  have H := H1
                  clear H1
                  obtain rfl := Option.some.inj H
                  go_wp2
                  go_ret
                  exact ⟨by first | rfl | (simp [errW_none, errW_some] <;> rfl) | (simp [*, errW_none, errW_some] <;> rfl), by repeat (first | (with_reducible first | exact HB.out | apply below_alloc | apply pw_below_drewN | apply below_drew1) | exact HB.out)⟩
                · replace c17 := Bool.eq_false_iff.mpr c17
                  subst c17
                  have H1 : (spec_named.l1 kj9 a1 a2 (rdOf ByteArray.empty t116 x13_1) 0 t116 (t116.length : Int) x13_1) = some r := by rw [if_neg (show ¬ (false = true) by decide)] at H; exact H
                  clear H
                  have H := H1
                  clear H1
                  have H' := Aside0.mk H
                  clear H
                  go_wp2
                  go_loopg [9] kj9 (fun kq v9 w' => ∃ (x9_3 : Int), v9 = .int .i64 x9_3 ∧ Aside0 (spec_named.l1 kq a1 a2 (rdOf ByteArray.empty t116 x13_1) x9_3 t116 (t116.length : Int) x13_1 = some r) ∧ Aside0 (kq ≤ kj9) ∧ Aside0 (Kd.R Kd.string 9 w' w.heap.size (fun _ => True) (.slice (some ad119) t116.length co6) t116) ∧ Aside0 (Below w.heap.size w w'))
                  case atStart => exact ⟨(0), (by first | rfl | (simp; done) | (simp [*]; done)), H', ⟨Nat.le_refl _⟩, ⟨by (with_reducible repeat (first | apply Kd.R_alloc | apply Kd.R_drewN | apply Kd.R_drew)); exact HO_11.out⟩, ⟨by repeat (first | (with_reducible first | exact HB.out | apply below_alloc | apply pw_below_drewN | apply below_drew1) | exact HB.out)⟩⟩
                  case round =>
                    clear H'
                    try clear c1
                    try clear p1
                    try clear q1
                    try clear hx1
                    try clear qi1
                    try clear c2
                    try clear p2
                    try clear c7
                    try clear c7b0
                    try clear c8
                    try clear c8b0
                    try clear c9
                    try clear c9b0
                    try clear c11
                    try clear c11b0
                    try clear c11b1
                    try clear p11
                    try clear q11
                    try clear hx11
                    try clear c12
                    try clear c13
                    try clear c13b0
                    try clear c13b1
                    try clear p14
                    try clear q14
                    try clear hx14
                    try clear qi14
                    try clear c15
                    try clear c15b0
                    try clear p16
                    try clear q16
                    try clear hx16
                    try clear qi16
                    try clear c17
                    try clear hx119_0
                    try clear p1
                    try clear p11
                    try clear p119
                    try clear p14
                    try clear p16
                    try clear p2
                    try clear q1
                    try clear q11
                    try clear q119
                    try clear q14
                    try clear q16
                    obtain ⟨x9_3, rfl, HA, HK3, HO_11, HB⟩ := hrel
                    cases gk with
                    | zero => exact absurd HA.out (by simp [spec_named.l1])
                    | succ k3 =>
                      have H := HA.out
                      clear HA
                      simp only [spec_named.l1] at H
                      by_cases c18 : x9_3 < ((rdOf ByteArray.empty t116 x13_1).size : Int)
                      · rw [if_pos c18] at H
                        have c18b0 : decide (x9_3 < ((rdOf ByteArray.empty t116 x13_1).size : Int)) = true := decide_eq_true c18
                        clear c18
                        by_cases c19 : 0 ≤ x9_3
                        · rw [if_pos c19] at H
                          have c19b0 : decide (0 ≤ x9_3) = true := decide_eq_true c19
                          clear c19
                          replace H := Option.bind_eq_some_iff.mp H
                          obtain ⟨t120, A210, H⟩ := H
                          replace H : (if t120 = true then (spec_named.l1 k3 a1 a2 (rdOf ByteArray.empty t116 x13_1) (wrap64 (x9_3 + 1)) t116 (t116.length : Int) x13_1) else (if a1 = true then (if (bt (rdOf ByteArray.empty t116 x13_1) x9_3) = 45 then (spec_named.l1 k3 a1 a2 (rdOf ByteArray.empty t116 x13_1) (wrap64 (x9_3 + 1)) t116 (t116.length : Int) x13_1) else (some false)) else (some false))) = some r := H
                          have A21 := Aside0.mk A210
                          clear A210
                          by_cases c22 : t120 = true
                          · subst c22
                            have H1 : (spec_named.l1 k3 a1 a2 (rdOf ByteArray.empty t116 x13_1) (wrap64 (x9_3 + 1)) t116 (t116.length : Int) x13_1) = some r := by rw [if_pos rfl] at H; exact H
                            clear H
                            have H := H1
                            clear H1
                            have H' := Aside0.mk H
                            clear H
                            have p20 : 0 ≤ (x9_3 : Int) := of_decide_eq_true (by first | (with_reducible assumption) | assumption)
                            have q20 : x9_3 < ((rdOf ByteArray.empty t116 x13_1).size : Int) := of_decide_eq_true (by first | (with_reducible assumption) | assumption)
                            have hx20 := bt_at (rdOf ByteArray.empty t116 x13_1) x9_3
                            replace p20 := eq_true p20
                            replace q20 := eq_true q20
                            go_wp2_with (first | ((with_reducible refine gate_callee (f := 14) rfl ?_); refine goesL_ (some 42) rfl rfl Try.func14 (by kernel_rfl) rfl #[.int .u8 (bt (rdOf ByteArray.empty t116 x13_1) x9_3)] rfl (by (try simp only [List.map_toArray, List.map_cons, List.map_nil]); first | done | rfl | (simp only [List.length_drop, List.length_take]; rfl)) ?_; (with_reducible refine (spec_word.calls (bt (rdOf ByteArray.empty t116 x13_1) x9_3) true _ A21.out).mono ?_); rintro e w' ⟨rfl, ⟨nd, rfl⟩⟩; refine ⟨_, rfl, ?_⟩))
                            go_roundg k3
                            case measure => have := HK1.out; have := HJ9.out; have := HK3.out; omega
                            case rel => exact ⟨(wrap64 (x9_3 + 1)), (by first | rfl | (simp; done) | (simp [*]; done)), H', ⟨by have := HK1.out; have := HJ9.out; have := HK3.out; omega⟩, ⟨by (with_reducible repeat (first | apply Kd.R_alloc | apply Kd.R_drewN | apply Kd.R_drew)); exact HO_11.out⟩, ⟨by repeat (first | (with_reducible first | exact HB.out | apply below_alloc | apply pw_below_drewN | apply below_drew1) | exact HB.out)⟩⟩
                          · replace c22 := Bool.eq_false_iff.mpr c22
                            subst c22
                            have H1 : (if a1 = true then (if (bt (rdOf ByteArray.empty t116 x13_1) x9_3) = 45 then (spec_named.l1 k3 a1 a2 (rdOf ByteArray.empty t116 x13_1) (wrap64 (x9_3 + 1)) t116 (t116.length : Int) x13_1) else (some false)) else (some false)) = some r := by rw [if_neg (show ¬ (false = true) by decide)] at H; exact H
                            clear H
                            have H := H1
                            clear H1
                            by_cases c23 : a1 = true
                            · subst c23
                              have H1 : (if (bt (rdOf ByteArray.empty t116 x13_1) x9_3) = 45 then (spec_named.l1 k3 true a2 (rdOf ByteArray.empty t116 x13_1) (wrap64 (x9_3 + 1)) t116 (t116.length : Int) x13_1) else (some false)) = some r := by rw [if_pos rfl] at H; exact H
                              clear H
                              have H := H1
                              clear H1
                              by_cases c25 : (bt (rdOf ByteArray.empty t116 x13_1) x9_3) = 45
                              · rw [if_pos c25] at H
                                have c25b0 : ((bt (rdOf ByteArray.empty t116 x13_1) x9_3) == 45) = true := beq_iff_eq.mpr c25
                                have c25b1 : ((bt (rdOf ByteArray.empty t116 x13_1) x9_3) != 45) = false := bne_eq_false_iff_eq.mpr c25
                                clear c25
                                have H' := Aside0.mk H
                                clear H
                                have p20 : 0 ≤ (x9_3 : Int) := of_decide_eq_true (by first | (with_reducible assumption) | assumption)
                                have q20 : x9_3 < ((rdOf ByteArray.empty t116 x13_1).size : Int) := of_decide_eq_true (by first | (with_reducible assumption) | assumption)
                                have hx20 := bt_at (rdOf ByteArray.empty t116 x13_1) x9_3
                                replace p20 := eq_true p20
                                replace q20 := eq_true q20
                                go_wp2_with (first | ((with_reducible refine gate_callee (f := 14) rfl ?_); refine goesL_ (some 42) rfl rfl Try.func14 (by kernel_rfl) rfl #[.int .u8 (bt (rdOf ByteArray.empty t116 x13_1) x9_3)] rfl (by (try simp only [List.map_toArray, List.map_cons, List.map_nil]); first | done | rfl | (simp only [List.length_drop, List.length_take]; rfl)) ?_; (with_reducible refine (spec_word.calls (bt (rdOf ByteArray.empty t116 x13_1) x9_3) false _ A21.out).mono ?_); rintro e w' ⟨rfl, ⟨nd, rfl⟩⟩; refine ⟨_, rfl, ?_⟩; have p24 : 0 ≤ (x9_3 : Int) := of_decide_eq_true (by first | (with_reducible assumption) | assumption); have q24 : x9_3 < ((rdOf ByteArray.empty t116 x13_1).size : Int) := of_decide_eq_true (by first | (with_reducible assumption) | assumption); have hx24 := bt_at (rdOf ByteArray.empty t116 x13_1) x9_3; replace p24 := eq_true p24; replace q24 := eq_true q24))
                                go_roundg k3
                                case measure => have := HK1.out; have := HJ9.out; have := HK3.out; omega
                                case rel => exact ⟨(wrap64 (x9_3 + 1)), (by first | rfl | (simp; done) | (simp [*]; done)), H', ⟨by have := HK1.out; have := HJ9.out; have := HK3.out; omega⟩, ⟨by (with_reducible repeat (first | apply Kd.R_alloc | apply Kd.R_drewN | apply Kd.R_drew)); exact HO_11.out⟩, ⟨by repeat (first | (with_reducible first | exact HB.out | apply below_alloc | apply pw_below_drewN | apply below_drew1) | exact HB.out)⟩⟩
                              · rw [if_neg c25] at H
                                have c25b0 : ((bt (rdOf ByteArray.empty t116 x13_1) x9_3) == 45) = false := beq_eq_false_iff_ne.mpr c25
                                have c25b1 : ((bt (rdOf ByteArray.empty t116 x13_1) x9_3) != 45) = true := bne_iff_ne.mpr c25
                                obtain rfl := Option.some.inj H
                                have p20 : 0 ≤ (x9_3 : Int) := of_decide_eq_true (by first | (with_reducible assumption) | assumption)
                                have q20 : x9_3 < ((rdOf ByteArray.empty t116 x13_1).size : Int) := of_decide_eq_true (by first | (with_reducible assumption) | assumption)
                                have hx20 := bt_at (rdOf ByteArray.empty t116 x13_1) x9_3
                                replace p20 := eq_true p20
                                replace q20 := eq_true q20
                                go_wp2_with (first | ((with_reducible refine gate_callee (f := 14) rfl ?_); refine goesL_ (some 42) rfl rfl Try.func14 (by kernel_rfl) rfl #[.int .u8 (bt (rdOf ByteArray.empty t116 x13_1) x9_3)] rfl (by (try simp only [List.map_toArray, List.map_cons, List.map_nil]); first | done | rfl | (simp only [List.length_drop, List.length_take]; rfl)) ?_; (with_reducible refine (spec_word.calls (bt (rdOf ByteArray.empty t116 x13_1) x9_3) false _ A21.out).mono ?_); rintro e w' ⟨rfl, ⟨nd, rfl⟩⟩; refine ⟨_, rfl, ?_⟩; have p24 : 0 ≤ (x9_3 : Int) := of_decide_eq_true (by first | (with_reducible assumption) | assumption); have q24 : x9_3 < ((rdOf ByteArray.empty t116 x13_1).size : Int) := of_decide_eq_true (by first | (with_reducible assumption) | assumption); have hx24 := bt_at (rdOf ByteArray.empty t116 x13_1) x9_3; replace p24 := eq_true p24; replace q24 := eq_true q24))
                                go_ret
                                exact ⟨by first | rfl | (simp [errW_none, errW_some] <;> rfl) | (simp [*, errW_none, errW_some] <;> rfl), by repeat (first | (with_reducible first | exact HB.out | apply below_alloc | apply pw_below_drewN | apply below_drew1) | exact HB.out)⟩
                            · replace c23 := Bool.eq_false_iff.mpr c23
                              subst c23
                              have H1 : (some false) = some r := by rw [if_neg (show ¬ (false = true) by decide)] at H; exact H
                              clear H
                              have H := H1
                              clear H1
                              obtain rfl := Option.some.inj H
                              have p20 : 0 ≤ (x9_3 : Int) := of_decide_eq_true (by first | (with_reducible assumption) | assumption)
                              have q20 : x9_3 < ((rdOf ByteArray.empty t116 x13_1).size : Int) := of_decide_eq_true (by first | (with_reducible assumption) | assumption)
                              have hx20 := bt_at (rdOf ByteArray.empty t116 x13_1) x9_3
                              replace p20 := eq_true p20
                              replace q20 := eq_true q20
                              go_wp2_with (first | ((with_reducible refine gate_callee (f := 14) rfl ?_); refine goesL_ (some 42) rfl rfl Try.func14 (by kernel_rfl) rfl #[.int .u8 (bt (rdOf ByteArray.empty t116 x13_1) x9_3)] rfl (by (try simp only [List.map_toArray, List.map_cons, List.map_nil]); first | done | rfl | (simp only [List.length_drop, List.length_take]; rfl)) ?_; (with_reducible refine (spec_word.calls (bt (rdOf ByteArray.empty t116 x13_1) x9_3) false _ A21.out).mono ?_); rintro e w' ⟨rfl, ⟨nd, rfl⟩⟩; refine ⟨_, rfl, ?_⟩))
                              go_ret
                              exact ⟨by first | rfl | (simp [errW_none, errW_some] <;> rfl) | (simp [*, errW_none, errW_some] <;> rfl), by repeat (first | (with_reducible first | exact HB.out | apply below_alloc | apply pw_below_drewN | apply below_drew1) | exact HB.out)⟩
                        · rw [if_neg c19] at H
                          exact absurd H (by simp)
                      · rw [if_neg c18] at H
                        have c18b0 : decide (x9_3 < ((rdOf ByteArray.empty t116 x13_1).size : Int)) = false := decide_eq_false c18
                        clear c18
                        have H' := Aside0.mk H
                        clear H
                        go_wp2
                        go_roundg k3
                        case measure => have := HK1.out; have := HJ9.out; have := HK3.out; omega
                        case rel => exact ⟨(wrap64 (x13_1 + 1)), (by first | rfl | (simp; done) | (simp [*]; done)), H', ⟨by have := HK1.out; have := HJ9.out; have := HK3.out; omega⟩, ⟨by (with_reducible repeat (first | apply Kd.R_alloc | apply Kd.R_drewN | apply Kd.R_drew)); exact HO_11.out⟩, ⟨by repeat (first | (with_reducible first | exact HB.out | apply below_alloc | apply pw_below_drewN | apply below_drew1) | exact HB.out)⟩⟩
          · rw [if_neg c9] at H
            exact absurd H (by simp)
        · rw [if_neg c8] at H
          exact absurd H (by simp)
      · rw [if_neg c7] at H
        have c7b0 : decide (x13_1 < (t116.length : Int)) = false := decide_eq_false c7
        clear c7
        obtain rfl := Option.some.inj H
        go_wp2
        go_ret
        exact ⟨by first | rfl | (simp [errW_none, errW_some] <;> rfl) | (simp [*, errW_none, errW_some] <;> rfl), by repeat (first | (with_reducible first | exact HB.out | apply below_alloc | apply pw_below_drewN | apply below_drew1) | exact HB.out)⟩

/-! ### spec_ValidMember: function 11 -/
def spec_ValidMember.f (k : Nat) (a0 : ByteArray) : Option (Bool) := if (a0.size : Int) ≤ 255 then ((spec_points.f k a0).bind fun t121 => (if t121 = 0 then ((spec_named.f k a0 false false).bind fun t122 => (some t122)) else (some false))) else (some false)
theorem spec_ValidMember.mono : ∀ a0 k, LeO (spec_ValidMember.f k a0) (spec_ValidMember.f (k + 1) a0) := by
  intro a0 k
  unfold spec_ValidMember.f
  repeat' first
      | (with_reducible exact spec_named.mono _ _ _ _)
      | (with_reducible exact spec_points.mono _ _)
      | (with_reducible exact LeO.refl _)
      | (with_reducible exact LeO.none _)
      | (with_reducible refine LeO.ite ?_ ?_)
      | (with_reducible refine LeO.bind ?_ (fun _ => ?_))
      | exact spec_named.mono _ _ _ _
      | exact spec_points.mono _ _
      | exact LeO.none _
      | refine LeO.ite ?_ ?_
      | refine LeO.bind ?_ (fun _ => ?_)
set_option maxHeartbeats 8000000 in
set_option maxRecDepth 100000 in
theorem spec_ValidMember.calls (k : Nat) (a0 : ByteArray) (r : Bool) (w : World) (h : spec_ValidMember.f k a0 = some r) :
    Calls Try.prog 11 #[.string a0] w fun e w' => e = .returned (.bool r) ∧ Below w.heap.size w w' := by
  have HB := Aside0.mk (Below.refl w.heap.size w)
  have H : (if (a0.size : Int) ≤ 255 then ((spec_points.f k a0).bind fun t121 => (if t121 = 0 then ((spec_named.f k a0 false false).bind fun t122 => (some t122)) else (some false))) else (some false)) = some r := h
  clear h
  by_cases c2 : (a0.size : Int) ≤ 255
  · rw [if_pos c2] at H
    have c2b0 : decide ((a0.size : Int) ≤ 255) = true := decide_eq_true c2
    have c2b1 : decide (a0.size ≤ 255) = true := decide_eq_true (by omega)
    clear c2
    replace H := Option.bind_eq_some_iff.mp H
    obtain ⟨t121, A30, H⟩ := H
    replace H : (if t121 = 0 then ((spec_named.f k a0 false false).bind fun t122 => (some t122)) else (some false)) = some r := H
    have A3 := Aside0.mk A30
    clear A30
    by_cases c4 : t121 = 0
    · rw [if_pos c4] at H
      have c4b0 : (t121 == 0) = true := beq_iff_eq.mpr c4
      have c4b1 : (t121 != 0) = false := bne_eq_false_iff_eq.mpr c4
      clear c4
      replace H := Option.bind_eq_some_iff.mp H
      obtain ⟨t122, A50, H⟩ := H
      replace H : (some t122) = some r := H
      have A5 := Aside0.mk A50
      clear A50
      obtain rfl := Option.some.inj H
      go_enter Try.func11, Try.ntmps11
      go_wp2_with (first | (go_at_call 18; (with_reducible refine (spec_points.calls k a0 t121 _ A3.out).mono ?_); rintro e w' ⟨rfl, ⟨nd, rfl⟩⟩) | (go_at_call 19; (with_reducible refine (spec_named.calls k a0 false false t122 _ A5.out).mono ?_); rintro e w6 ⟨rfl, hb⟩; have n0_ := Aside0.mk (below_step (by repeat (first | (with_reducible first | exact HB.out | apply below_alloc | apply pw_below_drewN | apply below_drew1) | exact HB.out)) hb); clear HB; have HB := n0_; clear n0_; (try clear hb); (try clear hb2); (try clear hk); (try clear hi)))
      go_ret
      exact ⟨by first | rfl | (simp [errW_none, errW_some] <;> rfl) | (simp [*, errW_none, errW_some] <;> rfl), by repeat (first | (with_reducible first | exact HB.out | apply below_alloc | apply pw_below_drewN | apply below_drew1) | exact HB.out)⟩
    · rw [if_neg c4] at H
      have c4b0 : (t121 == 0) = false := beq_eq_false_iff_ne.mpr c4
      have c4b1 : (t121 != 0) = true := bne_iff_ne.mpr c4
      obtain rfl := Option.some.inj H
      go_enter Try.func11, Try.ntmps11
      go_wp2_with (first | (go_at_call 18; (with_reducible refine (spec_points.calls k a0 t121 _ A3.out).mono ?_); rintro e w' ⟨rfl, ⟨nd, rfl⟩⟩))
      go_ret
      exact ⟨by first | rfl | (simp [errW_none, errW_some] <;> rfl) | (simp [*, errW_none, errW_some] <;> rfl), by repeat (first | (with_reducible first | exact HB.out | apply below_alloc | apply pw_below_drewN | apply below_drew1) | exact HB.out)⟩
  · rw [if_neg c2] at H
    have c2b0 : decide ((a0.size : Int) ≤ 255) = false := decide_eq_false c2
    have c2b1 : decide (a0.size ≤ 255) = false := decide_eq_false (by omega)
    clear c2
    obtain rfl := Option.some.inj H
    go_enter Try.func11, Try.ntmps11
    go_wp2
    go_ret
    exact ⟨by first | rfl | (simp [errW_none, errW_some] <;> rfl) | (simp [*, errW_none, errW_some] <;> rfl), by repeat (first | (with_reducible first | exact HB.out | apply below_alloc | apply pw_below_drewN | apply below_drew1) | exact HB.out)⟩

/-! ### spec_ValidInterface: function 12 -/
def spec_ValidInterface.f (k : Nat) (a0 : ByteArray) : Option (Bool) := if (a0.size : Int) ≤ 255 then ((spec_points.f k a0).bind fun t123 => (if t123 > 0 then ((spec_named.f k a0 false false).bind fun t124 => (some t124)) else (some false))) else (some false)
theorem spec_ValidInterface.mono : ∀ a0 k, LeO (spec_ValidInterface.f k a0) (spec_ValidInterface.f (k + 1) a0) := by
  intro a0 k
  unfold spec_ValidInterface.f
  repeat' first
      | (with_reducible exact spec_named.mono _ _ _ _)
      | (with_reducible exact spec_points.mono _ _)
      | (with_reducible exact LeO.refl _)
      | (with_reducible exact LeO.none _)
      | (with_reducible refine LeO.ite ?_ ?_)
      | (with_reducible refine LeO.bind ?_ (fun _ => ?_))
      | exact spec_named.mono _ _ _ _
      | exact spec_points.mono _ _
      | exact LeO.none _
      | refine LeO.ite ?_ ?_
      | refine LeO.bind ?_ (fun _ => ?_)
set_option maxHeartbeats 8000000 in
set_option maxRecDepth 100000 in
theorem spec_ValidInterface.calls (k : Nat) (a0 : ByteArray) (r : Bool) (w : World) (h : spec_ValidInterface.f k a0 = some r) :
    Calls Try.prog 12 #[.string a0] w fun e w' => e = .returned (.bool r) ∧ Below w.heap.size w w' := by
  have HB := Aside0.mk (Below.refl w.heap.size w)
  have H : (if (a0.size : Int) ≤ 255 then ((spec_points.f k a0).bind fun t123 => (if t123 > 0 then ((spec_named.f k a0 false false).bind fun t124 => (some t124)) else (some false))) else (some false)) = some r := h
  clear h
  by_cases c2 : (a0.size : Int) ≤ 255
  · rw [if_pos c2] at H
    have c2b0 : decide ((a0.size : Int) ≤ 255) = true := decide_eq_true c2
    have c2b1 : decide (a0.size ≤ 255) = true := decide_eq_true (by omega)
    clear c2
    replace H := Option.bind_eq_some_iff.mp H
    obtain ⟨t123, A30, H⟩ := H
    replace H : (if t123 > 0 then ((spec_named.f k a0 false false).bind fun t124 => (some t124)) else (some false)) = some r := H
    have A3 := Aside0.mk A30
    clear A30
    by_cases c4 : t123 > 0
    · rw [if_pos c4] at H
      have c4b0 : decide (0 < t123) = true := decide_eq_true c4
      clear c4
      replace H := Option.bind_eq_some_iff.mp H
      obtain ⟨t124, A50, H⟩ := H
      replace H : (some t124) = some r := H
      have A5 := Aside0.mk A50
      clear A50
      obtain rfl := Option.some.inj H
      go_enter Try.func12, Try.ntmps12
      go_wp2_with (first | (go_at_call 18; (with_reducible refine (spec_points.calls k a0 t123 _ A3.out).mono ?_); rintro e w' ⟨rfl, ⟨nd, rfl⟩⟩) | (go_at_call 19; (with_reducible refine (spec_named.calls k a0 false false t124 _ A5.out).mono ?_); rintro e w6 ⟨rfl, hb⟩; have n0_ := Aside0.mk (below_step (by repeat (first | (with_reducible first | exact HB.out | apply below_alloc | apply pw_below_drewN | apply below_drew1) | exact HB.out)) hb); clear HB; have HB := n0_; clear n0_; (try clear hb); (try clear hb2); (try clear hk); (try clear hi)))
      go_ret
      exact ⟨by first | rfl | (simp [errW_none, errW_some] <;> rfl) | (simp [*, errW_none, errW_some] <;> rfl), by repeat (first | (with_reducible first | exact HB.out | apply below_alloc | apply pw_below_drewN | apply below_drew1) | exact HB.out)⟩
    · rw [if_neg c4] at H
      have c4b0 : decide (0 < t123) = false := decide_eq_false c4
      clear c4
      obtain rfl := Option.some.inj H
      go_enter Try.func12, Try.ntmps12
      go_wp2_with (first | (go_at_call 18; (with_reducible refine (spec_points.calls k a0 t123 _ A3.out).mono ?_); rintro e w' ⟨rfl, ⟨nd, rfl⟩⟩))
      go_ret
      exact ⟨by first | rfl | (simp [errW_none, errW_some] <;> rfl) | (simp [*, errW_none, errW_some] <;> rfl), by repeat (first | (with_reducible first | exact HB.out | apply below_alloc | apply pw_below_drewN | apply below_drew1) | exact HB.out)⟩
  · rw [if_neg c2] at H
    have c2b0 : decide ((a0.size : Int) ≤ 255) = false := decide_eq_false c2
    have c2b1 : decide (a0.size ≤ 255) = false := decide_eq_false (by omega)
    clear c2
    obtain rfl := Option.some.inj H
    go_enter Try.func12, Try.ntmps12
    go_wp2
    go_ret
    exact ⟨by first | rfl | (simp [errW_none, errW_some] <;> rfl) | (simp [*, errW_none, errW_some] <;> rfl), by repeat (first | (with_reducible first | exact HB.out | apply below_alloc | apply pw_below_drewN | apply below_drew1) | exact HB.out)⟩

end Go.Proofs.Ytheopfecoakhnaa.Y
