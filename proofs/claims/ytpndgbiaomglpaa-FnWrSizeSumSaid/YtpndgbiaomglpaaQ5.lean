-- Written by a program of this session out of the translation; Lean checks it.
import Derived.Test.YtpndgbiaomglpaaQ0
import Derived.Test.YtpndgbiaomglpaaQ4
namespace Go.Proofs.Ytpndgbiaomglpaa.Q
open Go.RowKit Go.Proofs.Ytpndgbiaomglpaa.Ext Go.Proofs.YtpndgbiaomglpaaW.PrintWords Go.Proofs.YtpndgbiaomglpaaW.PrintLast Go.Proofs.YtpndgbiaomglpaaW.PrintMore
attribute [local go_sem] max2_int min2_int max_two min_two max_three min_three max_four min_four   -- for this text's walks alone
set_option linter.unusedVariables false
set_option linter.unusedSimpArgs false

/-! ### spec_complete: function 32 -/
def spec_complete.f (k : Nat) (a0 : ByteArray) : Option (Int) := (spec_Complete.f k a0 32 32 32).bind fun t114 => (some t114)
theorem spec_complete.mono : ∀ a0 k, LeO (spec_complete.f k a0) (spec_complete.f (k + 1) a0) := by
  intro a0 k
  unfold spec_complete.f
  repeat' first
      | (with_reducible exact spec_Complete.mono _ _ _ _ _)
      | (with_reducible exact LeO.refl _)
      | (with_reducible exact LeO.none _)
      | (with_reducible refine LeO.ite ?_ ?_)
      | (with_reducible refine LeO.bind ?_ (fun _ => ?_))
      | exact spec_Complete.mono _ _ _ _ _
      | exact LeO.none _
      | refine LeO.ite ?_ ?_
      | refine LeO.bind ?_ (fun _ => ?_)
set_option maxHeartbeats 8000000 in
set_option maxRecDepth 100000 in
theorem spec_complete.calls (k : Nat) (a0 : ByteArray) (r : Int) (w : World) (h : spec_complete.f k a0 = some r) :
    Calls Try.prog 32 #[.string a0] w fun e w' => e = .returned (.int .i64 r) ∧ Drawn0 w w' := by
  have H : ((spec_Complete.f k a0 32 32 32).bind fun t114 => (some t114)) = some r := h
  clear h
  replace H := Option.bind_eq_some_iff.mp H
  obtain ⟨t114, A20, H⟩ := H
  replace H : (some t114) = some r := H
  have A2 := Aside0.mk A20
  clear A20
  obtain rfl := Option.some.inj H
  go_enter Try.func32, Try.ntmps32
  go_wp2_with (first | ((with_reducible refine gate_callee (f := 40) rfl ?_); refine goesL_ (some 4) rfl rfl Try.func40 (by kernel_rfl) rfl #[.string a0, .int .i64 32, .int .i64 32, .int .i64 32] rfl (by (try simp only [List.map_toArray, List.map_cons, List.map_nil]); first | done | rfl | (simp only [List.length_drop, List.length_take]; rfl)) ?_; (with_reducible refine (spec_Complete.calls k a0 32 32 32 t114 _ A2.out).mono ?_); rintro e w' ⟨rfl, ⟨nd, rfl⟩⟩; refine ⟨_, rfl, ?_⟩))
  go_ret
  exact ⟨by first | rfl | (simp; done) | (simp [*]; done), by repeat (first | exact Drawn0.refl _ | apply Drawn0.step)⟩

/-! ### spec_Types: function 24 -/
def spec_Types.l0 : Nat → ByteArray → List ByteArray → Option (List ByteArray × Bool)
  | 0, _, _ => none
  | k + 1, x0, x4 => if x0.toList = ([] : List UInt8) then (some (x4, true)) else ((spec_complete.f k x0).bind fun t115 => (if t115 = 0 then (some (([] : List ByteArray), false)) else (if 0 ≤ t115 then (if t115 ≤ (x0.size : Int) then (if x4.length < 8796093022208 then (spec_Types.l0 k (x0.extract (t115 : Int).toNat x0.size) (x4 ++ [x0.extract 0 (t115 : Int).toNat])) else (none)) else (none)) else (none))))
def spec_Types.f (k : Nat) (a0 : ByteArray) : Option (List ByteArray × Bool) := if (a0.size : Int) > 255 then (some (([] : List ByteArray), false)) else (spec_Types.l0 k a0 ([] : List ByteArray))
theorem spec_Types.mono_l : ∀ k, (∀ y0 y1, LeO (spec_Types.l0 k y0 y1) (spec_Types.l0 (k + 1) y0 y1))
  | 0 => fun _ _ r h => by simp [spec_Types.l0] at h
  | k + 1 => by
    have ih0 := spec_Types.mono_l k
    · intro y0 y1
      unfold spec_Types.l0
      repeat' first
      | (with_reducible exact ih0 _ _)
      | (with_reducible exact spec_complete.mono _ _)
      | (with_reducible exact LeO.refl _)
      | (with_reducible exact LeO.none _)
      | (with_reducible refine LeO.ite ?_ ?_)
      | (with_reducible refine LeO.bind ?_ (fun _ => ?_))
      | exact ih0 _ _
      | exact spec_complete.mono _ _
      | exact LeO.none _
      | refine LeO.ite ?_ ?_
      | refine LeO.bind ?_ (fun _ => ?_)
theorem spec_Types.mono : ∀ a0 k, LeO (spec_Types.f k a0) (spec_Types.f (k + 1) a0) := by
  intro a0 k
  have ih0 := spec_Types.mono_l k
  unfold spec_Types.f
  repeat' first
      | (with_reducible exact ih0 _ _)
      | (with_reducible exact spec_complete.mono _ _)
      | (with_reducible exact LeO.refl _)
      | (with_reducible exact LeO.none _)
      | (with_reducible refine LeO.ite ?_ ?_)
      | (with_reducible refine LeO.bind ?_ (fun _ => ?_))
      | exact ih0 _ _
      | exact spec_complete.mono _ _
      | exact LeO.none _
      | refine LeO.ite ?_ ?_
      | refine LeO.bind ?_ (fun _ => ?_)
set_option maxHeartbeats 8000000 in
set_option maxRecDepth 100000 in
theorem spec_Types.calls (k : Nat) (a0 : ByteArray) (r1 : List ByteArray) (r2 : Bool) (w : World) (h : spec_Types.f k a0 = some (r1, r2)) :
    Calls Try.prog 24 #[.string a0] w fun e w' => ∃ v0_ : Value, e = .returned (.tuple #[v0_, .bool r2]) ∧ Kd.R Kd.string 9 w' w.heap.size (fun _ => True) v0_ r1 ∧ Below w.heap.size w w' := by
  have HB := Aside0.mk (Below.refl w.heap.size w)
  have H : (if (a0.size : Int) > 255 then (some (([] : List ByteArray), false)) else (spec_Types.l0 k a0 ([] : List ByteArray))) = some (r1, r2) := h
  clear h
  by_cases c2 : (a0.size : Int) > 255
  · rw [if_pos c2] at H
    have c2b0 : decide (255 < (a0.size : Int)) = true := decide_eq_true c2
    have c2b1 : decide (255 < a0.size) = true := decide_eq_true (by omega)
    clear c2
    simp only [Option.some.injEq, Prod.mk.injEq] at H
    obtain ⟨rfl, rfl⟩ := H
    go_enter Try.func24, Try.ntmps24
    go_wp2
    go_ret2
    exact ⟨_, by first | rfl | (simp [errW_none, errW_some] <;> rfl) | (simp [*, errW_none, errW_some] <;> rfl), by first | exact Kd.R_nil _ _ _ _ _ | exact Kd.N_nil _ _ _ _ _ | exact Kd.V_nil _ _ _ _ _ | exact Kd.Q_nil _ _ _ _ _ | exact Kd.S_nil _ _ _ _ _, by repeat (first | (with_reducible first | exact HB.out | apply below_alloc | apply pw_below_drewN | apply below_drew1) | exact HB.out)⟩
  · rw [if_neg c2] at H
    have c2b0 : decide (255 < (a0.size : Int)) = false := decide_eq_false c2
    have c2b1 : decide (255 < a0.size) = false := decide_eq_false (by omega)
    clear c2
    have H' := Aside0.mk H
    clear H
    go_enter Try.func24, Try.ntmps24
    go_wp2
    go_loopg [0, 4] k (fun kq v0 v4 w' => ∃ (x0_1 : ByteArray) (x4_1 : List ByteArray), v0 = .string x0_1 ∧ Aside0 (spec_Types.l0 kq x0_1 x4_1 = some (r1, r2)) ∧ Aside0 (kq ≤ k) ∧ Aside0 (Kd.R Kd.string 9 w' w.heap.size (fun _ => True) v4 x4_1) ∧ Aside0 (Below w.heap.size w w'))
    case atStart => exact ⟨(a0), (([] : List ByteArray)), (by first | rfl | (simp; done) | (simp [*]; done)), H', ⟨Nat.le_refl _⟩, ⟨by first | exact Kd.R_nil _ _ _ _ _ | exact Kd.N_nil _ _ _ _ _ | exact Kd.V_nil _ _ _ _ _ | exact Kd.Q_nil _ _ _ _ _ | exact Kd.S_nil _ _ _ _ _⟩, ⟨by repeat (first | (with_reducible first | exact HB.out | apply below_alloc | apply pw_below_drewN | apply below_drew1) | exact HB.out)⟩⟩
    case round =>
      clear H'
      try clear c2
      try clear c2b0
      try clear c2b1
      try clear p2
      obtain ⟨x0_1, x4_1, rfl, HA, HK1, HO_4, HB⟩ := hrel
      cases gk with
      | zero => exact absurd HA.out (by simp [spec_Types.l0])
      | succ k1 =>
        have H := HA.out
        clear HA
        simp only [spec_Types.l0] at H
        by_cases c3 : x0_1.toList = ([] : List UInt8)
        · rw [if_pos c3] at H
          have c3b0 : (x0_1.toList == ([] : List UInt8)) = true := beq_iff_eq.mpr c3
          have c3b1 : (x0_1.toList != ([] : List UInt8)) = false := bne_eq_false_iff_eq.mpr c3
          clear c3
          simp only [Option.some.injEq, Prod.mk.injEq] at H
          obtain ⟨rfl, rfl⟩ := H
          go_wp2
          go_ret2
          exact ⟨_, by first | rfl | (simp [errW_none, errW_some] <;> rfl) | (simp [*, errW_none, errW_some] <;> rfl), by (with_reducible repeat (first | apply Kd.R_alloc | apply Kd.R_drewN | apply Kd.R_drew)); exact HO_4.out, by repeat (first | (with_reducible first | exact HB.out | apply below_alloc | apply pw_below_drewN | apply below_drew1) | exact HB.out)⟩
        · rw [if_neg c3] at H
          have c3b0 : (x0_1.toList == ([] : List UInt8)) = false := beq_eq_false_iff_ne.mpr c3
          have c3b1 : (x0_1.toList != ([] : List UInt8)) = true := bne_iff_ne.mpr c3
          replace H := Option.bind_eq_some_iff.mp H
          obtain ⟨t115, A40, H⟩ := H
          replace H : (if t115 = 0 then (some (([] : List ByteArray), false)) else (if 0 ≤ t115 then (if t115 ≤ (x0_1.size : Int) then (if x4_1.length < 8796093022208 then (spec_Types.l0 k1 (x0_1.extract (t115 : Int).toNat x0_1.size) (x4_1 ++ [x0_1.extract 0 (t115 : Int).toNat])) else (none)) else (none)) else (none))) = some (r1, r2) := H
          have A4 := Aside0.mk A40
          clear A40
          by_cases c5 : t115 = 0
          · rw [if_pos c5] at H
            have c5b0 : (t115 == 0) = true := beq_iff_eq.mpr c5
            have c5b1 : (t115 != 0) = false := bne_eq_false_iff_eq.mpr c5
            clear c5
            simp only [Option.some.injEq, Prod.mk.injEq] at H
            obtain ⟨rfl, rfl⟩ := H
            go_wp2_with (first | ((with_reducible refine gate_callee (f := 32) rfl ?_); refine goesL_ (some 12) rfl rfl Try.func32 (by kernel_rfl) rfl #[.string x0_1] rfl (by (try simp only [List.map_toArray, List.map_cons, List.map_nil]); first | done | rfl | (simp only [List.length_drop, List.length_take]; rfl)) ?_; (with_reducible refine (spec_complete.calls k1 x0_1 t115 _ A4.out).mono ?_); rintro e w' ⟨rfl, ⟨nd, rfl⟩⟩; refine ⟨_, rfl, ?_⟩))
            go_ret2
            exact ⟨_, by first | rfl | (simp [errW_none, errW_some] <;> rfl) | (simp [*, errW_none, errW_some] <;> rfl), by first | exact Kd.R_nil _ _ _ _ _ | exact Kd.N_nil _ _ _ _ _ | exact Kd.V_nil _ _ _ _ _ | exact Kd.Q_nil _ _ _ _ _ | exact Kd.S_nil _ _ _ _ _, by repeat (first | (with_reducible first | exact HB.out | apply below_alloc | apply pw_below_drewN | apply below_drew1) | exact HB.out)⟩
          · rw [if_neg c5] at H
            have c5b0 : (t115 == 0) = false := beq_eq_false_iff_ne.mpr c5
            have c5b1 : (t115 != 0) = true := bne_iff_ne.mpr c5
            by_cases c6 : 0 ≤ t115
            · rw [if_pos c6] at H
              have c6b0 := eq_true c6
              have c6b1 : decide (0 ≤ t115) = true := decide_eq_true c6
              clear c6
              by_cases c7 : t115 ≤ (x0_1.size : Int)
              · rw [if_pos c7] at H
                have c7b0 := eq_true c7
                have c7b1 : decide (t115 ≤ (x0_1.size : Int)) = true := decide_eq_true c7
                clear c7
                by_cases c8 : x4_1.length < 8796093022208
                · rw [if_pos c8] at H
                  have LMc8 := Aside0.mk c8
                  clear c8
                  obtain ⟨y116, hy116⟩ : ∃ y_ : List ByteArray, y_ = (x4_1 ++ [x0_1.extract 0 (t115 : Int).toNat]) := ⟨_, rfl⟩
                  replace H : (spec_Types.l0 k1 (x0_1.extract (t115 : Int).toNat x0_1.size) y116) = some (r1, r2) := by first | (rw [hy116]; with_reducible exact H) | (have H2_ := (Option.bind_some _ _).symm.trans H; rw [hy116]; with_reducible exact H2_) | (have H2_ := (Option.bind_some _ _).symm.trans H; with_reducible exact H2_) | with_reducible exact H | (rw [hy116]; exact H) | exact H
                  have Ny116 := Aside0.mk hy116
                  clear hy116
                  have c9b0 := eq_true (of_decide_eq_true (by first | (with_reducible assumption) | assumption) : 0 ≤ t115)
                  have c10b0 := eq_true (of_decide_eq_true (by first | (with_reducible assumption) | assumption) : t115 ≤ (x0_1.size : Int))
                  have H' := Aside0.mk H
                  clear H
                  go_wp2_with (first | ((with_reducible refine gate_callee (f := 32) rfl ?_); refine goesL_ (some 12) rfl rfl Try.func32 (by kernel_rfl) rfl #[.string x0_1] rfl (by (try simp only [List.map_toArray, List.map_cons, List.map_nil]); first | done | rfl | (simp only [List.length_drop, List.length_take]; rfl)) ?_; (with_reducible refine (spec_complete.calls k1 x0_1 t115 _ A4.out).mono ?_); rintro e w' ⟨rfl, ⟨nd, rfl⟩⟩; refine ⟨_, rfl, ?_⟩) | ((with_reducible refine gate_builtin (b := .append) (xs := #[.tmp 15, .tmp 19]) rfl ?_); at_builtin; refine Kd.R_append Kd.string (w0 := w) w.heap.size rfl (.tmp 15) (.tmp 19) 29 9 (.string ⟨#[]⟩) 16 rfl Try.underlying29 info9 rfl (by decide) (by omega) u4 x4_1 (x0_1.extract 0 (t115 : Int).toNat) [.string (x0_1.extract 0 (t115 : Int).toNat)] (fun _ => True) (fun _ => False) rfl rfl ?aP (fun _ hk => hk.elim) ?aF ?aO ?aB ?aS ?aL ?_; (case aP => exact rfl); (case aB => exact (by repeat (first | (with_reducible first | exact HB.out | apply below_alloc | apply pw_below_drewN | apply below_drew1) | exact HB.out))); (case aF => exact (fun _ _ => trivial)); (case aO => exact (by (with_reducible repeat (first | apply Kd.R_alloc | apply Kd.R_drewN | apply Kd.R_drew)); exact HO_4.out)); (case aS => exact (below_size (by repeat (first | (with_reducible first | exact HB.out | apply below_alloc | apply pw_below_drewN | apply below_drew1) | exact HB.out)))); (case aL => have := LMc8.out; omega); intro v117 w11 ho hb hg hat; rw [← Ny116.out] at ho; have n0_ := Aside0.mk (hb); have n1_ := Aside0.mk (ho); clear HB; clear HO_4; have HB := n0_; have HO118 := n1_; clear n0_ n1_; clear ho hb hg hat))
                  go_roundg k1
                  case measure => have := HK1.out; omega
                  case rel => exact ⟨(x0_1.extract (t115 : Int).toNat x0_1.size), (y116), (by first | rfl | (simp; done) | (simp [*]; done)), H', ⟨by have := HK1.out; omega⟩, ⟨by (with_reducible repeat (first | apply Kd.R_alloc | apply Kd.R_drewN | apply Kd.R_drew)); exact HO118.out⟩, ⟨by repeat (first | (with_reducible first | exact HB.out | apply below_alloc | apply pw_below_drewN | apply below_drew1) | exact HB.out)⟩⟩
                · rw [if_neg c8] at H
                  exact absurd H (by simp)
              · rw [if_neg c7] at H
                exact absurd H (by simp)
            · rw [if_neg c6] at H
              exact absurd H (by simp)

/-! ### spec_Valid: function 16 -/
def spec_Valid.f (k : Nat) (a0 : ByteArray) : Option (Bool) := (spec_Types.f k a0).bind fun bt119 => (some bt119.2)
theorem spec_Valid.mono : ∀ a0 k, LeO (spec_Valid.f k a0) (spec_Valid.f (k + 1) a0) := by
  intro a0 k
  unfold spec_Valid.f
  repeat' first
      | (with_reducible exact spec_Types.mono _ _)
      | (with_reducible exact LeO.refl _)
      | (with_reducible exact LeO.none _)
      | (with_reducible refine LeO.ite ?_ ?_)
      | (with_reducible refine LeO.bind ?_ (fun _ => ?_))
      | exact spec_Types.mono _ _
      | exact LeO.none _
      | refine LeO.ite ?_ ?_
      | refine LeO.bind ?_ (fun _ => ?_)
set_option maxHeartbeats 8000000 in
set_option maxRecDepth 100000 in
theorem spec_Valid.calls (k : Nat) (a0 : ByteArray) (r : Bool) (w : World) (h : spec_Valid.f k a0 = some r) :
    Calls Try.prog 16 #[.string a0] w fun e w' => e = .returned (.bool r) ∧ Below w.heap.size w w' := by
  have HB := Aside0.mk (Below.refl w.heap.size w)
  have H : ((spec_Types.f k a0).bind fun bt119 => (some bt119.2)) = some r := h
  clear h
  replace H := Option.bind_eq_some_iff.mp H
  obtain ⟨⟨t119, t120⟩, A20, H⟩ := H
  replace H : (some t120) = some r := H
  have A2 := Aside0.mk A20
  clear A20
  obtain rfl := Option.some.inj H
  go_enter Try.func16, Try.ntmps16
  go_wp2_with (first | ((with_reducible refine gate_callee (f := 24) rfl ?_); refine goesL_ (some 7) rfl rfl Try.func24 (by kernel_rfl) rfl #[.string a0] rfl (by (try simp only [List.map_toArray, List.map_cons, List.map_nil]); first | done | rfl | (simp only [List.length_drop, List.length_take]; rfl)) ?_; (with_reducible refine (spec_Types.calls k a0 t119 t120 _ A2.out).mono ?_); rintro e w3 ⟨v121, rfl, ho0, hb⟩; refine ⟨_, rfl, ?_⟩; have n0_ := Aside0.mk (Kd.R_lower ho0 (below_size (by repeat (first | (with_reducible first | exact HB.out | apply below_alloc | apply pw_below_drewN | apply below_drew1) | exact HB.out)))); have n1_ := Aside0.mk (below_step (by repeat (first | (with_reducible first | exact HB.out | apply below_alloc | apply pw_below_drewN | apply below_drew1) | exact HB.out)) hb); clear HB; have HO122 := n0_; have HB := n1_; clear n0_ n1_; (try clear hb); (try clear hb2); (try clear hk); (try clear hi); (try clear ho0)))
  go_ret
  exact ⟨by first | rfl | (simp [errW_none, errW_some] <;> rfl) | (simp [*, errW_none, errW_some] <;> rfl), by repeat (first | (with_reducible first | exact HB.out | apply below_alloc | apply pw_below_drewN | apply below_drew1) | exact HB.out)⟩

end Go.Proofs.Ytpndgbiaomglpaa.Q
