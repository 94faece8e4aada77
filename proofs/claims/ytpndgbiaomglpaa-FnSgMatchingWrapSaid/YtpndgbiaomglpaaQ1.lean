-- Written by a program of this session out of the translation; Lean checks it.
import Derived.Test.YtpndgbiaomglpaaQ0
namespace Go.Proofs.Ytpndgbiaomglpaa.Q
open Go.RowKit Go.Proofs.Ytpndgbiaomglpaa.Ext Go.Proofs.YtpndgbiaomglpaaW.PrintWords Go.Proofs.YtpndgbiaomglpaaW.PrintLast Go.Proofs.YtpndgbiaomglpaaW.PrintMore
attribute [local go_sem] max2_int min2_int max_two min_two max_three min_three max_four min_four   -- for this text's walks alone
set_option linter.unusedVariables false
set_option linter.unusedSimpArgs false

-- BY HAND: function 9 (impl_WrPad), in Derived.Test.YtpndgbiaomglpaaExt1

/-! ### laws_FnWrPadSum: function 3 -/
def laws_FnWrPadSum.j0 : Nat → Int → Int → Int → Bool → Option (Bool)
  | 0, _, _, _, _ => none
  | k + 1, x0, x1, x2, x20 => if x20 = true then (some true) else (if 0 ≤ (IntKind.u64.wrap (x2)) then ((impl_WrPad.f (wrap64 (x0)) (wrap64 (x1)) (shl .i64 1 (IntKind.u64.wrap (x2)))).bind fun t101 => ((impl_WrPad.f (wrap64 ((wrap64 (x0)) + 1)) (wrap64 (x1)) (shl .i64 1 (IntKind.u64.wrap (x2)))).bind fun t102 => ((impl_WrPad.f (wrap64 (IntKind.u64.wrap (x0 + x1))) 0 (shl .i64 1 (IntKind.u64.wrap (x2)))).bind fun t103 => (if t103 = t101 then ((impl_WrPad.f 0 (wrap64 (IntKind.u64.wrap (x0 + x1))) (shl .i64 1 (IntKind.u64.wrap (x2)))).bind fun t104 => (if t104 = t101 then (if (shl .i64 1 (IntKind.u64.wrap (x2))) = 0 then (none) else (if t102 = (Int.tmod (wrap64 ((wrap64 (t101 + (shl .i64 1 (IntKind.u64.wrap (x2))))) - 1)) (shl .i64 1 (IntKind.u64.wrap (x2)))) then ((impl_WrPad.f 1 0 4).bind fun t105 => (some (t105 == 3))) else (some false))) else (some false))) else (some false))))) else (none))
def laws_FnWrPadSum.f (k : Nat) (a0 : Int) (a1 : Int) (a2 : Int) : Option (Bool) := if a0 > 1099511627776 then (laws_FnWrPadSum.j0 k a0 a1 a2 true) else (if a1 > 1099511627776 then (laws_FnWrPadSum.j0 k a0 a1 a2 true) else (laws_FnWrPadSum.j0 k a0 a1 a2 (decide (a2 > 20))))
theorem laws_FnWrPadSum.mono_l : ∀ k, (∀ y0 y1 y2 y3, LeO (laws_FnWrPadSum.j0 k y0 y1 y2 y3) (laws_FnWrPadSum.j0 (k + 1) y0 y1 y2 y3))
  | 0 => fun _ _ _ _ r h => by simp [laws_FnWrPadSum.j0] at h
  | k + 1 => by
    have ih0 := laws_FnWrPadSum.mono_l k
    · intro y0 y1 y2 y3
      unfold laws_FnWrPadSum.j0
      repeat' first
      | (with_reducible exact ih0 _ _ _ _)
      | (with_reducible exact LeO.refl _)
      | (with_reducible exact LeO.none _)
      | (with_reducible refine LeO.ite ?_ ?_)
      | (with_reducible refine LeO.bind ?_ (fun _ => ?_))
      | exact ih0 _ _ _ _
      | exact LeO.none _
      | refine LeO.ite ?_ ?_
      | refine LeO.bind ?_ (fun _ => ?_)
theorem laws_FnWrPadSum.mono : ∀ a0 a1 a2 k, LeO (laws_FnWrPadSum.f k a0 a1 a2) (laws_FnWrPadSum.f (k + 1) a0 a1 a2) := by
  intro a0 a1 a2 k
  have ih0 := laws_FnWrPadSum.mono_l k
  unfold laws_FnWrPadSum.f
  repeat' first
      | (with_reducible exact ih0 _ _ _ _)
      | (with_reducible exact LeO.refl _)
      | (with_reducible exact LeO.none _)
      | (with_reducible refine LeO.ite ?_ ?_)
      | (with_reducible refine LeO.bind ?_ (fun _ => ?_))
      | exact ih0 _ _ _ _
      | exact LeO.none _
      | refine LeO.ite ?_ ?_
      | refine LeO.bind ?_ (fun _ => ?_)
set_option maxHeartbeats 8000000 in
set_option maxRecDepth 100000 in
theorem laws_FnWrPadSum.calls (k : Nat) (a0 : Int) (a1 : Int) (a2 : Int) (r : Bool) (w : World) (h : laws_FnWrPadSum.f k a0 a1 a2 = some r) :
    Calls Try.prog 3 #[.int .u64 a0, .int .u64 a1, .int .u8 a2] w fun e w' => e = .returned (.bool r) ∧ Below w.heap.size w w' := by
  have HB := Aside0.mk (Below.refl w.heap.size w)
  have H : (if a0 > 1099511627776 then (laws_FnWrPadSum.j0 k a0 a1 a2 true) else (if a1 > 1099511627776 then (laws_FnWrPadSum.j0 k a0 a1 a2 true) else (laws_FnWrPadSum.j0 k a0 a1 a2 (decide (a2 > 20))))) = some r := h
  clear h
  have HC4 := Aside0.mk H
  clear H
  go_enter Try.func3, Try.ntmps3
  go_upto_region 1 with (fail)
  go_cut [20] (fun v20 wc => ∃ (kq : Nat) (x20_3 : Bool), v20 = .bool x20_3 ∧ Aside0 (laws_FnWrPadSum.j0 kq a0 a1 a2 x20_3 = some r) ∧ Aside0 (kq ≤ k) ∧ Aside0 (Below w.heap.size w wc))
  case first =>
    have H := HC4.out
    clear HC4
    by_cases c5 : a0 > 1099511627776
    · rw [if_pos c5] at H
      have c5b0 : decide (1099511627776 < a0) = true := decide_eq_true c5
      clear c5
      (first | rw [c5b0] | (simp only [i64_w, i32_w]; rw [c5b0]) | skip)
      have H' := Aside0.mk H
      clear H
      go_wp2
      go_meet
      case rel => exact ⟨_, (true), (by first | rfl | (simp; done) | (simp [*]; done)), H', ⟨by first | omega | exact Nat.le_refl _⟩, ⟨by repeat (first | (with_reducible first | exact HB.out | apply below_alloc | apply pw_below_drewN | apply below_drew1) | exact HB.out)⟩⟩
    · rw [if_neg c5] at H
      have c5b0 : decide (1099511627776 < a0) = false := decide_eq_false c5
      clear c5
      (first | rw [c5b0] | (simp only [i64_w, i32_w]; rw [c5b0]) | skip)
      by_cases c6 : a1 > 1099511627776
      · rw [if_pos c6] at H
        have c6b0 : decide (1099511627776 < a1) = true := decide_eq_true c6
        clear c6
        have H' := Aside0.mk H
        clear H
        go_wp2
        go_meet
        case rel => exact ⟨_, (true), (by first | rfl | (simp; done) | (simp [*]; done)), H', ⟨by first | omega | exact Nat.le_refl _⟩, ⟨by repeat (first | (with_reducible first | exact HB.out | apply below_alloc | apply pw_below_drewN | apply below_drew1) | exact HB.out)⟩⟩
      · rw [if_neg c6] at H
        have c6b0 : decide (1099511627776 < a1) = false := decide_eq_false c6
        clear c6
        have H' := Aside0.mk H
        clear H
        go_wp2
        go_meet
        case rel => exact ⟨_, (decide (a2 > 20)), (by first | rfl | (simp; done) | (simp [*]; done)), H', ⟨by first | omega | exact Nat.le_refl _⟩, ⟨by repeat (first | (with_reducible first | exact HB.out | apply below_alloc | apply pw_below_drewN | apply below_drew1) | exact HB.out)⟩⟩
  case rest =>
    clear HC4
    try clear p2
    try clear c3
    try clear c5
    try clear c5b0
    try clear c6
    try clear c6b0
    obtain ⟨kq, x20_3, rfl, HA, HJ3, HB⟩ := hcut
    cases kq with
    | zero => exact absurd HA.out (by simp [laws_FnWrPadSum.j0])
    | succ kj3 =>
      have H := HA.out
      clear HA
      simp only [laws_FnWrPadSum.j0] at H
      by_cases c7 : x20_3 = true
      · subst c7
        have H1 : (some true) = some r := by rw [if_pos rfl] at H; exact H
        clear H
        have H := H1
        clear H1
        obtain rfl := Option.some.inj H
        go_wp2
        go_ret
        exact ⟨by first | rfl | (simp [errW_none, errW_some] <;> rfl) | (simp [*, errW_none, errW_some] <;> rfl), by repeat (first | (with_reducible first | exact HB.out | apply below_alloc | apply pw_below_drewN | apply below_drew1) | exact HB.out)⟩
      · replace c7 := Bool.eq_false_iff.mpr c7
        subst c7
        have H1 : (if 0 ≤ (IntKind.u64.wrap (a2)) then ((impl_WrPad.f (wrap64 (a0)) (wrap64 (a1)) (shl .i64 1 (IntKind.u64.wrap (a2)))).bind fun t101 => ((impl_WrPad.f (wrap64 ((wrap64 (a0)) + 1)) (wrap64 (a1)) (shl .i64 1 (IntKind.u64.wrap (a2)))).bind fun t102 => ((impl_WrPad.f (wrap64 (IntKind.u64.wrap (a0 + a1))) 0 (shl .i64 1 (IntKind.u64.wrap (a2)))).bind fun t103 => (if t103 = t101 then ((impl_WrPad.f 0 (wrap64 (IntKind.u64.wrap (a0 + a1))) (shl .i64 1 (IntKind.u64.wrap (a2)))).bind fun t104 => (if t104 = t101 then (if (shl .i64 1 (IntKind.u64.wrap (a2))) = 0 then (none) else (if t102 = (Int.tmod (wrap64 ((wrap64 (t101 + (shl .i64 1 (IntKind.u64.wrap (a2))))) - 1)) (shl .i64 1 (IntKind.u64.wrap (a2)))) then ((impl_WrPad.f 1 0 4).bind fun t105 => (some (t105 == 3))) else (some false))) else (some false))) else (some false))))) else (none)) = some r := by rw [if_neg (show ¬ (false = true) by decide)] at H; exact H
        clear H
        have H := H1
        clear H1
        obtain ⟨ji8, hji8⟩ : ∃ j_ : Int, (IntKind.u64.wrap (a2)) = j_ := ⟨_, rfl⟩
        replace H : (if 0 ≤ (ji8) then ((impl_WrPad.f (wrap64 (a0)) (wrap64 (a1)) (shl .i64 1 (ji8))).bind fun t101 => ((impl_WrPad.f (wrap64 ((wrap64 (a0)) + 1)) (wrap64 (a1)) (shl .i64 1 (ji8))).bind fun t102 => ((impl_WrPad.f (wrap64 (IntKind.u64.wrap (a0 + a1))) 0 (shl .i64 1 (ji8))).bind fun t103 => (if t103 = t101 then ((impl_WrPad.f 0 (wrap64 (IntKind.u64.wrap (a0 + a1))) (shl .i64 1 (ji8))).bind fun t104 => (if t104 = t101 then (if (shl .i64 1 (ji8)) = 0 then (none) else (if t102 = (Int.tmod (wrap64 ((wrap64 (t101 + (shl .i64 1 (ji8)))) - 1)) (shl .i64 1 (ji8))) then ((impl_WrPad.f 1 0 4).bind fun t105 => (some (t105 == 3))) else (some false))) else (some false))) else (some false))))) else (none)) = some r := by first | (rw [hji8] at H; exact H) | (simp only [hji8] at H ⊢; exact H)
        by_cases c9 : 0 ≤ (ji8)
        · rw [if_pos c9] at H
          have c9b0 := eq_true c9
          have c9b1 : decide (0 ≤ (ji8)) = true := decide_eq_true c9
          clear c9
          obtain ⟨ji10, hji10⟩ : ∃ j_ : Int, (shl .i64 1 (ji8)) = j_ := ⟨_, rfl⟩
          replace H : ((impl_WrPad.f (wrap64 (a0)) (wrap64 (a1)) (ji10)).bind fun t101 => ((impl_WrPad.f (wrap64 ((wrap64 (a0)) + 1)) (wrap64 (a1)) (ji10)).bind fun t102 => ((impl_WrPad.f (wrap64 (IntKind.u64.wrap (a0 + a1))) 0 (ji10)).bind fun t103 => (if t103 = t101 then ((impl_WrPad.f 0 (wrap64 (IntKind.u64.wrap (a0 + a1))) (ji10)).bind fun t104 => (if t104 = t101 then (if (ji10) = 0 then (none) else (if t102 = (Int.tmod (wrap64 ((wrap64 (t101 + (ji10))) - 1)) (ji10)) then ((impl_WrPad.f 1 0 4).bind fun t105 => (some (t105 == 3))) else (some false))) else (some false))) else (some false))))) = some r := by first | (rw [hji10] at H; exact H) | (simp only [hji10] at H ⊢; exact H)
          have hji10_ : (IntKind.i64.wrap (1 * 2 ^ min (ji8).toNat 64)) = ji10 := hji10
          have hji10z : (ji8) ≤ 64 → (IntKind.i64.wrap (1 * 2 ^ (ji8).toNat)) = ji10 := shl_small hji10
          have hji10u : (IntKind.i64.wrap (2 ^ min (ji8).toNat 64)) = ji10 := by have h_ := hji10_; rw [Int.one_mul] at h_; exact h_
          have hji10v : (ji8) ≤ 64 → (IntKind.i64.wrap (2 ^ (ji8).toNat)) = ji10 := fun hle_ => by have h_ := hji10z hle_; rw [Int.one_mul] at h_; exact h_
          have hji10y : (wrap64 (1 * 2 ^ min (ji8).toNat 64)) = ji10 := (i64_w _).symm.trans hji10_
          have hji10x : (ji8) ≤ 64 → (wrap64 (1 * 2 ^ (ji8).toNat)) = ji10 := fun h_ => (i64_w _).symm.trans (hji10z h_)
          replace H := Option.bind_eq_some_iff.mp H
          obtain ⟨t101, A110, H⟩ := H
          replace H : ((impl_WrPad.f (wrap64 ((wrap64 (a0)) + 1)) (wrap64 (a1)) (ji10)).bind fun t102 => ((impl_WrPad.f (wrap64 (IntKind.u64.wrap (a0 + a1))) 0 (ji10)).bind fun t103 => (if t103 = t101 then ((impl_WrPad.f 0 (wrap64 (IntKind.u64.wrap (a0 + a1))) (ji10)).bind fun t104 => (if t104 = t101 then (if (ji10) = 0 then (none) else (if t102 = (Int.tmod (wrap64 ((wrap64 (t101 + (ji10))) - 1)) (ji10)) then ((impl_WrPad.f 1 0 4).bind fun t105 => (some (t105 == 3))) else (some false))) else (some false))) else (some false)))) = some r := H
          have A11 := Aside0.mk A110
          clear A110
          replace H := Option.bind_eq_some_iff.mp H
          obtain ⟨t102, A120, H⟩ := H
          replace H : ((impl_WrPad.f (wrap64 (IntKind.u64.wrap (a0 + a1))) 0 (ji10)).bind fun t103 => (if t103 = t101 then ((impl_WrPad.f 0 (wrap64 (IntKind.u64.wrap (a0 + a1))) (ji10)).bind fun t104 => (if t104 = t101 then (if (ji10) = 0 then (none) else (if t102 = (Int.tmod (wrap64 ((wrap64 (t101 + (ji10))) - 1)) (ji10)) then ((impl_WrPad.f 1 0 4).bind fun t105 => (some (t105 == 3))) else (some false))) else (some false))) else (some false))) = some r := H
          have A12 := Aside0.mk A120
          clear A120
          replace H := Option.bind_eq_some_iff.mp H
          obtain ⟨t103, A130, H⟩ := H
          replace H : (if t103 = t101 then ((impl_WrPad.f 0 (wrap64 (IntKind.u64.wrap (a0 + a1))) (ji10)).bind fun t104 => (if t104 = t101 then (if (ji10) = 0 then (none) else (if t102 = (Int.tmod (wrap64 ((wrap64 (t101 + (ji10))) - 1)) (ji10)) then ((impl_WrPad.f 1 0 4).bind fun t105 => (some (t105 == 3))) else (some false))) else (some false))) else (some false)) = some r := H
          have A13 := Aside0.mk A130
          clear A130
          by_cases c14 : t103 = t101
          · rw [if_pos c14] at H
            have c14b0 : (t103 == t101) = true := beq_iff_eq.mpr c14
            have c14b1 : (t103 != t101) = false := bne_eq_false_iff_eq.mpr c14
            clear c14
            replace H := Option.bind_eq_some_iff.mp H
            obtain ⟨t104, A150, H⟩ := H
            replace H : (if t104 = t101 then (if (ji10) = 0 then (none) else (if t102 = (Int.tmod (wrap64 ((wrap64 (t101 + (ji10))) - 1)) (ji10)) then ((impl_WrPad.f 1 0 4).bind fun t105 => (some (t105 == 3))) else (some false))) else (some false)) = some r := H
            have A15 := Aside0.mk A150
            clear A150
            by_cases c16 : t104 = t101
            · rw [if_pos c16] at H
              have c16b0 : (t104 == t101) = true := beq_iff_eq.mpr c16
              have c16b1 : (t104 != t101) = false := bne_eq_false_iff_eq.mpr c16
              clear c16
              by_cases c17 : (ji10) = 0
              · rw [if_pos c17] at H
                exact absurd H (by simp)
              · rw [if_neg c17] at H
                have c17b0 : ((ji10) == 0) = false := beq_eq_false_iff_ne.mpr c17
                have c17b1 : ((ji10) != 0) = true := bne_iff_ne.mpr c17
                by_cases c18 : t102 = (Int.tmod (wrap64 ((wrap64 (t101 + (ji10))) - 1)) (ji10))
                · rw [if_pos c18] at H
                  have c18b0 : (t102 == (Int.tmod (wrap64 ((wrap64 (t101 + (ji10))) - 1)) (ji10))) = true := beq_iff_eq.mpr c18
                  have c18b1 : (t102 != (Int.tmod (wrap64 ((wrap64 (t101 + (ji10))) - 1)) (ji10))) = false := bne_eq_false_iff_eq.mpr c18
                  clear c18
                  replace H := Option.bind_eq_some_iff.mp H
                  obtain ⟨t105, A190, H⟩ := H
                  replace H : (some (t105 == 3)) = some r := H
                  have A19 := Aside0.mk A190
                  clear A190
                  obtain rfl := Option.some.inj H
                  go_wp2_with (first | ((with_reducible refine gate_callee (f := 9) rfl ?_); refine goesL_ (some 33) rfl rfl Try.func9 (by kernel_rfl) rfl #[.int .i64 (wrap64 (a0)), .int .i64 (wrap64 (a1)), .int .i64 ji10] rfl (by (try simp only [List.map_toArray, List.map_cons, List.map_nil]); first | done | (simp only [hji10]; rfl) | rfl | (simp only [List.length_drop, List.length_take]; rfl)) ?_; (with_reducible refine (impl_WrPad.calls (wrap64 (a0)) (wrap64 (a1)) ji10 t101 _ A11.out).mono ?_); rintro e w20 ⟨rfl, hb⟩; refine ⟨_, rfl, ?_⟩; have n0_ := Aside0.mk (below_step (by repeat (first | (with_reducible first | exact HB.out | apply below_alloc | apply pw_below_drewN | apply below_drew1) | exact HB.out)) hb); clear HB; have HB := n0_; clear n0_; (try clear hb); (try clear hb2); (try clear hk); (try clear hi)) | ((with_reducible refine gate_callee (f := 9) rfl ?_); refine goesL_ (some 40) rfl rfl Try.func9 (by kernel_rfl) rfl #[.int .i64 (wrap64 ((wrap64 (a0)) + 1)), .int .i64 (wrap64 (a1)), .int .i64 ji10] rfl (by (try simp only [List.map_toArray, List.map_cons, List.map_nil]); first | done | (simp only [hji10]; rfl) | rfl | (simp only [List.length_drop, List.length_take]; rfl)) ?_; (with_reducible refine (impl_WrPad.calls (wrap64 ((wrap64 (a0)) + 1)) (wrap64 (a1)) ji10 t102 _ A12.out).mono ?_); rintro e w21 ⟨rfl, hb⟩; refine ⟨_, rfl, ?_⟩; have n0_ := Aside0.mk (below_step (by repeat (first | (with_reducible first | exact HB.out | apply below_alloc | apply pw_below_drewN | apply below_drew1) | exact HB.out)) hb); clear HB; have HB := n0_; clear n0_; (try clear hb); (try clear hb2); (try clear hk); (try clear hi)) | ((with_reducible refine gate_callee (f := 9) rfl ?_); refine goesL_ (some 43) rfl rfl Try.func9 (by kernel_rfl) rfl #[.int .i64 (wrap64 (IntKind.u64.wrap (a0 + a1))), .int .i64 0, .int .i64 ji10] rfl (by (try simp only [List.map_toArray, List.map_cons, List.map_nil]); first | done | (simp only [hji10]; rfl) | rfl | (simp only [List.length_drop, List.length_take]; rfl)) ?_; (with_reducible refine (impl_WrPad.calls (wrap64 (IntKind.u64.wrap (a0 + a1))) 0 ji10 t103 _ A13.out).mono ?_); rintro e w22 ⟨rfl, hb⟩; refine ⟨_, rfl, ?_⟩; have n0_ := Aside0.mk (below_step (by repeat (first | (with_reducible first | exact HB.out | apply below_alloc | apply pw_below_drewN | apply below_drew1) | exact HB.out)) hb); clear HB; have HB := n0_; clear n0_; (try clear hb); (try clear hb2); (try clear hk); (try clear hi)) | (go_at_call 9; (with_reducible refine (impl_WrPad.calls 0 (wrap64 (IntKind.u64.wrap (a0 + a1))) ji10 t104 _ A15.out).mono ?_); rintro e w23 ⟨rfl, hb⟩; have n0_ := Aside0.mk (below_step (by repeat (first | (with_reducible first | exact HB.out | apply below_alloc | apply pw_below_drewN | apply below_drew1) | exact HB.out)) hb); clear HB; have HB := n0_; clear n0_; (try clear hb); (try clear hb2); (try clear hk); (try clear hi)) | (go_at_call 9; (with_reducible refine (impl_WrPad.calls 1 0 4 t105 _ A19.out).mono ?_); rintro e w24 ⟨rfl, hb⟩; have n0_ := Aside0.mk (below_step (by repeat (first | (with_reducible first | exact HB.out | apply below_alloc | apply pw_below_drewN | apply below_drew1) | exact HB.out)) hb); clear HB; have HB := n0_; clear n0_; (try clear hb); (try clear hb2); (try clear hk); (try clear hi)))
                  go_ret
                  exact ⟨by first | rfl | (simp [errW_none, errW_some] <;> rfl) | (simp only [← hji8, ← hji10]; first | rfl | (simp [errW_none, errW_some] <;> rfl)) | (simp [*, errW_none, errW_some] <;> rfl), by repeat (first | (with_reducible first | exact HB.out | apply below_alloc | apply pw_below_drewN | apply below_drew1) | exact HB.out)⟩
                · rw [if_neg c18] at H
                  have c18b0 : (t102 == (Int.tmod (wrap64 ((wrap64 (t101 + (ji10))) - 1)) (ji10))) = false := beq_eq_false_iff_ne.mpr c18
                  have c18b1 : (t102 != (Int.tmod (wrap64 ((wrap64 (t101 + (ji10))) - 1)) (ji10))) = true := bne_iff_ne.mpr c18
                  obtain rfl := Option.some.inj H
                  go_wp2_with (first | ((with_reducible refine gate_callee (f := 9) rfl ?_); refine goesL_ (some 33) rfl rfl Try.func9 (by kernel_rfl) rfl #[.int .i64 (wrap64 (a0)), .int .i64 (wrap64 (a1)), .int .i64 ji10] rfl (by (try simp only [List.map_toArray, List.map_cons, List.map_nil]); first | done | (simp only [hji10]; rfl) | rfl | (simp only [List.length_drop, List.length_take]; rfl)) ?_; (with_reducible refine (impl_WrPad.calls (wrap64 (a0)) (wrap64 (a1)) ji10 t101 _ A11.out).mono ?_); rintro e w25 ⟨rfl, hb⟩; refine ⟨_, rfl, ?_⟩; have n0_ := Aside0.mk (below_step (by repeat (first | (with_reducible first | exact HB.out | apply below_alloc | apply pw_below_drewN | apply below_drew1) | exact HB.out)) hb); clear HB; have HB := n0_; clear n0_; (try clear hb); (try clear hb2); (try clear hk); (try clear hi)) | ((with_reducible refine gate_callee (f := 9) rfl ?_); refine goesL_ (some 40) rfl rfl Try.func9 (by kernel_rfl) rfl #[.int .i64 (wrap64 ((wrap64 (a0)) + 1)), .int .i64 (wrap64 (a1)), .int .i64 ji10] rfl (by (try simp only [List.map_toArray, List.map_cons, List.map_nil]); first | done | (simp only [hji10]; rfl) | rfl | (simp only [List.length_drop, List.length_take]; rfl)) ?_; (with_reducible refine (impl_WrPad.calls (wrap64 ((wrap64 (a0)) + 1)) (wrap64 (a1)) ji10 t102 _ A12.out).mono ?_); rintro e w26 ⟨rfl, hb⟩; refine ⟨_, rfl, ?_⟩; have n0_ := Aside0.mk (below_step (by repeat (first | (with_reducible first | exact HB.out | apply below_alloc | apply pw_below_drewN | apply below_drew1) | exact HB.out)) hb); clear HB; have HB := n0_; clear n0_; (try clear hb); (try clear hb2); (try clear hk); (try clear hi)) | ((with_reducible refine gate_callee (f := 9) rfl ?_); refine goesL_ (some 43) rfl rfl Try.func9 (by kernel_rfl) rfl #[.int .i64 (wrap64 (IntKind.u64.wrap (a0 + a1))), .int .i64 0, .int .i64 ji10] rfl (by (try simp only [List.map_toArray, List.map_cons, List.map_nil]); first | done | (simp only [hji10]; rfl) | rfl | (simp only [List.length_drop, List.length_take]; rfl)) ?_; (with_reducible refine (impl_WrPad.calls (wrap64 (IntKind.u64.wrap (a0 + a1))) 0 ji10 t103 _ A13.out).mono ?_); rintro e w27 ⟨rfl, hb⟩; refine ⟨_, rfl, ?_⟩; have n0_ := Aside0.mk (below_step (by repeat (first | (with_reducible first | exact HB.out | apply below_alloc | apply pw_below_drewN | apply below_drew1) | exact HB.out)) hb); clear HB; have HB := n0_; clear n0_; (try clear hb); (try clear hb2); (try clear hk); (try clear hi)) | (go_at_call 9; (with_reducible refine (impl_WrPad.calls 0 (wrap64 (IntKind.u64.wrap (a0 + a1))) ji10 t104 _ A15.out).mono ?_); rintro e w28 ⟨rfl, hb⟩; have n0_ := Aside0.mk (below_step (by repeat (first | (with_reducible first | exact HB.out | apply below_alloc | apply pw_below_drewN | apply below_drew1) | exact HB.out)) hb); clear HB; have HB := n0_; clear n0_; (try clear hb); (try clear hb2); (try clear hk); (try clear hi)))
                  go_ret
                  exact ⟨by first | rfl | (simp [errW_none, errW_some] <;> rfl) | (simp only [← hji8, ← hji10]; first | rfl | (simp [errW_none, errW_some] <;> rfl)) | (simp [*, errW_none, errW_some] <;> rfl), by repeat (first | (with_reducible first | exact HB.out | apply below_alloc | apply pw_below_drewN | apply below_drew1) | exact HB.out)⟩
            · rw [if_neg c16] at H
              have c16b0 : (t104 == t101) = false := beq_eq_false_iff_ne.mpr c16
              have c16b1 : (t104 != t101) = true := bne_iff_ne.mpr c16
              obtain rfl := Option.some.inj H
              go_wp2_with (first | ((with_reducible refine gate_callee (f := 9) rfl ?_); refine goesL_ (some 33) rfl rfl Try.func9 (by kernel_rfl) rfl #[.int .i64 (wrap64 (a0)), .int .i64 (wrap64 (a1)), .int .i64 ji10] rfl (by (try simp only [List.map_toArray, List.map_cons, List.map_nil]); first | done | (simp only [hji10]; rfl) | rfl | (simp only [List.length_drop, List.length_take]; rfl)) ?_; (with_reducible refine (impl_WrPad.calls (wrap64 (a0)) (wrap64 (a1)) ji10 t101 _ A11.out).mono ?_); rintro e w29 ⟨rfl, hb⟩; refine ⟨_, rfl, ?_⟩; have n0_ := Aside0.mk (below_step (by repeat (first | (with_reducible first | exact HB.out | apply below_alloc | apply pw_below_drewN | apply below_drew1) | exact HB.out)) hb); clear HB; have HB := n0_; clear n0_; (try clear hb); (try clear hb2); (try clear hk); (try clear hi)) | ((with_reducible refine gate_callee (f := 9) rfl ?_); refine goesL_ (some 40) rfl rfl Try.func9 (by kernel_rfl) rfl #[.int .i64 (wrap64 ((wrap64 (a0)) + 1)), .int .i64 (wrap64 (a1)), .int .i64 ji10] rfl (by (try simp only [List.map_toArray, List.map_cons, List.map_nil]); first | done | (simp only [hji10]; rfl) | rfl | (simp only [List.length_drop, List.length_take]; rfl)) ?_; (with_reducible refine (impl_WrPad.calls (wrap64 ((wrap64 (a0)) + 1)) (wrap64 (a1)) ji10 t102 _ A12.out).mono ?_); rintro e w30 ⟨rfl, hb⟩; refine ⟨_, rfl, ?_⟩; have n0_ := Aside0.mk (below_step (by repeat (first | (with_reducible first | exact HB.out | apply below_alloc | apply pw_below_drewN | apply below_drew1) | exact HB.out)) hb); clear HB; have HB := n0_; clear n0_; (try clear hb); (try clear hb2); (try clear hk); (try clear hi)) | ((with_reducible refine gate_callee (f := 9) rfl ?_); refine goesL_ (some 43) rfl rfl Try.func9 (by kernel_rfl) rfl #[.int .i64 (wrap64 (IntKind.u64.wrap (a0 + a1))), .int .i64 0, .int .i64 ji10] rfl (by (try simp only [List.map_toArray, List.map_cons, List.map_nil]); first | done | (simp only [hji10]; rfl) | rfl | (simp only [List.length_drop, List.length_take]; rfl)) ?_; (with_reducible refine (impl_WrPad.calls (wrap64 (IntKind.u64.wrap (a0 + a1))) 0 ji10 t103 _ A13.out).mono ?_); rintro e w31 ⟨rfl, hb⟩; refine ⟨_, rfl, ?_⟩; have n0_ := Aside0.mk (below_step (by repeat (first | (with_reducible first | exact HB.out | apply below_alloc | apply pw_below_drewN | apply below_drew1) | exact HB.out)) hb); clear HB; have HB := n0_; clear n0_; (try clear hb); (try clear hb2); (try clear hk); (try clear hi)) | (go_at_call 9; (with_reducible refine (impl_WrPad.calls 0 (wrap64 (IntKind.u64.wrap (a0 + a1))) ji10 t104 _ A15.out).mono ?_); rintro e w32 ⟨rfl, hb⟩; have n0_ := Aside0.mk (below_step (by repeat (first | (with_reducible first | exact HB.out | apply below_alloc | apply pw_below_drewN | apply below_drew1) | exact HB.out)) hb); clear HB; have HB := n0_; clear n0_; (try clear hb); (try clear hb2); (try clear hk); (try clear hi)))
              go_ret
              exact ⟨by first | rfl | (simp [errW_none, errW_some] <;> rfl) | (simp only [← hji8, ← hji10]; first | rfl | (simp [errW_none, errW_some] <;> rfl)) | (simp [*, errW_none, errW_some] <;> rfl), by repeat (first | (with_reducible first | exact HB.out | apply below_alloc | apply pw_below_drewN | apply below_drew1) | exact HB.out)⟩
          · rw [if_neg c14] at H
            have c14b0 : (t103 == t101) = false := beq_eq_false_iff_ne.mpr c14
            have c14b1 : (t103 != t101) = true := bne_iff_ne.mpr c14
            obtain rfl := Option.some.inj H
            go_wp2_with (first | ((with_reducible refine gate_callee (f := 9) rfl ?_); refine goesL_ (some 33) rfl rfl Try.func9 (by kernel_rfl) rfl #[.int .i64 (wrap64 (a0)), .int .i64 (wrap64 (a1)), .int .i64 ji10] rfl (by (try simp only [List.map_toArray, List.map_cons, List.map_nil]); first | done | (simp only [hji10]; rfl) | rfl | (simp only [List.length_drop, List.length_take]; rfl)) ?_; (with_reducible refine (impl_WrPad.calls (wrap64 (a0)) (wrap64 (a1)) ji10 t101 _ A11.out).mono ?_); rintro e w33 ⟨rfl, hb⟩; refine ⟨_, rfl, ?_⟩; have n0_ := Aside0.mk (below_step (by repeat (first | (with_reducible first | exact HB.out | apply below_alloc | apply pw_below_drewN | apply below_drew1) | exact HB.out)) hb); clear HB; have HB := n0_; clear n0_; (try clear hb); (try clear hb2); (try clear hk); (try clear hi)) | ((with_reducible refine gate_callee (f := 9) rfl ?_); refine goesL_ (some 40) rfl rfl Try.func9 (by kernel_rfl) rfl #[.int .i64 (wrap64 ((wrap64 (a0)) + 1)), .int .i64 (wrap64 (a1)), .int .i64 ji10] rfl (by (try simp only [List.map_toArray, List.map_cons, List.map_nil]); first | done | (simp only [hji10]; rfl) | rfl | (simp only [List.length_drop, List.length_take]; rfl)) ?_; (with_reducible refine (impl_WrPad.calls (wrap64 ((wrap64 (a0)) + 1)) (wrap64 (a1)) ji10 t102 _ A12.out).mono ?_); rintro e w34 ⟨rfl, hb⟩; refine ⟨_, rfl, ?_⟩; have n0_ := Aside0.mk (below_step (by repeat (first | (with_reducible first | exact HB.out | apply below_alloc | apply pw_below_drewN | apply below_drew1) | exact HB.out)) hb); clear HB; have HB := n0_; clear n0_; (try clear hb); (try clear hb2); (try clear hk); (try clear hi)) | ((with_reducible refine gate_callee (f := 9) rfl ?_); refine goesL_ (some 43) rfl rfl Try.func9 (by kernel_rfl) rfl #[.int .i64 (wrap64 (IntKind.u64.wrap (a0 + a1))), .int .i64 0, .int .i64 ji10] rfl (by (try simp only [List.map_toArray, List.map_cons, List.map_nil]); first | done | (simp only [hji10]; rfl) | rfl | (simp only [List.length_drop, List.length_take]; rfl)) ?_; (with_reducible refine (impl_WrPad.calls (wrap64 (IntKind.u64.wrap (a0 + a1))) 0 ji10 t103 _ A13.out).mono ?_); rintro e w35 ⟨rfl, hb⟩; refine ⟨_, rfl, ?_⟩; have n0_ := Aside0.mk (below_step (by repeat (first | (with_reducible first | exact HB.out | apply below_alloc | apply pw_below_drewN | apply below_drew1) | exact HB.out)) hb); clear HB; have HB := n0_; clear n0_; (try clear hb); (try clear hb2); (try clear hk); (try clear hi)))
            go_ret
            exact ⟨by first | rfl | (simp [errW_none, errW_some] <;> rfl) | (simp only [← hji8, ← hji10]; first | rfl | (simp [errW_none, errW_some] <;> rfl)) | (simp [*, errW_none, errW_some] <;> rfl), by repeat (first | (with_reducible first | exact HB.out | apply below_alloc | apply pw_below_drewN | apply below_drew1) | exact HB.out)⟩
        · rw [if_neg c9] at H
          exact absurd H (by simp)

/-- THE ONE PURE STATEMENT of laws_FnWrPadSum: yours. -/
def laws_FnWrPadSum.Pure : Prop := ∀ (a0 : Int) (a1 : Int) (a2 : Int), (Lit.int .u64 a0).wf = true → (Lit.int .u64 a1).wf = true → (Lit.int .u8 a2).wf = true → ∃ k, laws_FnWrPadSum.f k a0 a1 a2 = some true
theorem laws_FnWrPadSum.walk (P : laws_FnWrPadSum.Pure) (a0 : Int) (a1 : Int) (a2 : Int) (w : World) (w0 : (Lit.int .u64 a0).wf = true) (w1 : (Lit.int .u64 a1).wf = true) (w2 : (Lit.int .u8 a2).wf = true) :
    Calls Try.prog 3 #[.int .u64 a0, .int .u64 a1, .int .u8 a2] w fun e w' => e = .returned (.bool true) ∧ Below w.heap.size w w' := by
  obtain ⟨k, h⟩ := P a0 a1 a2 w0 w1 w2
  refine (laws_FnWrPadSum.calls k a0 a1 a2 true w h).mono ?_
  rintro e w' ⟨rfl, hd⟩
  exact ⟨rfl, hd⟩

/-! ### laws_sgBalanced: function 10 -/
mutual
def laws_sgBalanced.l0 : Nat → ByteArray → Int → Int → Int → Int → Option (Bool)
  | 0, _, _, _, _, _ => none
  | k + 1, x0, x1, x2, x7, x8 => if x8 < (x0.size : Int) then (laws_sgBalanced.j1 k x0 x1 x2 x7 x8 (decide (x7 ≥ 0))) else (laws_sgBalanced.j1 k x0 x1 x2 x7 x8 false)
def laws_sgBalanced.j1 : Nat → ByteArray → Int → Int → Int → Int → Bool → Option (Bool)
  | 0, _, _, _, _, _, _ => none
  | k + 1, x0, x1, x2, x7, x8, x16 => if x16 = true then (if 0 ≤ x8 then (if x8 < (x0.size : Int) then (if (bt x0 x8) = x1 then (laws_sgBalanced.l0 k x0 x1 x2 (wrap64 (x7 + 1)) (wrap64 (x8 + 1))) else (if (bt x0 x8) = x2 then (laws_sgBalanced.l0 k x0 x1 x2 (wrap64 (x7 - 1)) (wrap64 (x8 + 1))) else (laws_sgBalanced.l0 k x0 x1 x2 x7 (wrap64 (x8 + 1))))) else (none)) else (none)) else (some (x7 == 0))
end
def laws_sgBalanced.f (k : Nat) (a0 : ByteArray) (a1 : Int) (a2 : Int) : Option (Bool) := laws_sgBalanced.l0 k a0 a1 a2 0 0
theorem laws_sgBalanced.mono_l : ∀ k, (∀ y0 y1 y2 y3 y4, LeO (laws_sgBalanced.l0 k y0 y1 y2 y3 y4) (laws_sgBalanced.l0 (k + 1) y0 y1 y2 y3 y4)) ∧ (∀ y0 y1 y2 y3 y4 y5, LeO (laws_sgBalanced.j1 k y0 y1 y2 y3 y4 y5) (laws_sgBalanced.j1 (k + 1) y0 y1 y2 y3 y4 y5))
  | 0 => ⟨fun _ _ _ _ _ r h => by simp [laws_sgBalanced.l0] at h, fun _ _ _ _ _ _ r h => by simp [laws_sgBalanced.j1] at h⟩
  | k + 1 => by
    obtain ⟨ih0, ih1⟩ := laws_sgBalanced.mono_l k
    refine ⟨?_, ?_⟩
    · intro y0 y1 y2 y3 y4
      unfold laws_sgBalanced.l0
      repeat' first
      | (with_reducible exact ih0 _ _ _ _ _)
      | (with_reducible exact ih1 _ _ _ _ _ _)
      | (with_reducible exact LeO.refl _)
      | (with_reducible exact LeO.none _)
      | (with_reducible refine LeO.ite ?_ ?_)
      | (with_reducible refine LeO.bind ?_ (fun _ => ?_))
      | exact ih0 _ _ _ _ _
      | exact ih1 _ _ _ _ _ _
      | exact LeO.none _
      | refine LeO.ite ?_ ?_
      | refine LeO.bind ?_ (fun _ => ?_)
    · intro y0 y1 y2 y3 y4 y5
      unfold laws_sgBalanced.j1
      repeat' first
      | (with_reducible exact ih0 _ _ _ _ _)
      | (with_reducible exact ih1 _ _ _ _ _ _)
      | (with_reducible exact LeO.refl _)
      | (with_reducible exact LeO.none _)
      | (with_reducible refine LeO.ite ?_ ?_)
      | (with_reducible refine LeO.bind ?_ (fun _ => ?_))
      | exact ih0 _ _ _ _ _
      | exact ih1 _ _ _ _ _ _
      | exact LeO.none _
      | refine LeO.ite ?_ ?_
      | refine LeO.bind ?_ (fun _ => ?_)
theorem laws_sgBalanced.mono : ∀ a0 a1 a2 k, LeO (laws_sgBalanced.f k a0 a1 a2) (laws_sgBalanced.f (k + 1) a0 a1 a2) := by
  intro a0 a1 a2 k
  obtain ⟨ih0, ih1⟩ := laws_sgBalanced.mono_l k
  unfold laws_sgBalanced.f
  repeat' first
      | (with_reducible exact ih0 _ _ _ _ _)
      | (with_reducible exact ih1 _ _ _ _ _ _)
      | (with_reducible exact LeO.refl _)
      | (with_reducible exact LeO.none _)
      | (with_reducible refine LeO.ite ?_ ?_)
      | (with_reducible refine LeO.bind ?_ (fun _ => ?_))
      | exact ih0 _ _ _ _ _
      | exact ih1 _ _ _ _ _ _
      | exact LeO.none _
      | refine LeO.ite ?_ ?_
      | refine LeO.bind ?_ (fun _ => ?_)
set_option maxHeartbeats 8000000 in
set_option maxRecDepth 100000 in
theorem laws_sgBalanced.calls (k : Nat) (a0 : ByteArray) (a1 : Int) (a2 : Int) (r : Bool) (w : World) (h : laws_sgBalanced.f k a0 a1 a2 = some r) :
    Calls Try.prog 10 #[.string a0, .int .u8 a1, .int .u8 a2] w fun e w' => e = .returned (.bool r) ∧ Drawn0 w w' := by
  have H : (laws_sgBalanced.l0 k a0 a1 a2 0 0) = some r := h
  clear h
  have H' := Aside0.mk H
  clear H
  go_enter Try.func10, Try.ntmps10
  go_wp2
  go_loopg [7, 8] k (fun kq v7 v8 w' => ∃ (x7_1 : Int) (x8_1 : Int), v7 = .int .i64 x7_1 ∧ v8 = .int .i64 x8_1 ∧ Aside0 (laws_sgBalanced.l0 kq a0 a1 a2 x7_1 x8_1 = some r) ∧ Aside0 (kq ≤ k) ∧ Drawn0 w w')
  case atStart => exact ⟨(0), (0), (by first | rfl | (simp; done) | (simp [*]; done)), (by first | rfl | (simp; done) | (simp [*]; done)), H', ⟨Nat.le_refl _⟩, by repeat (first | exact Drawn0.refl _ | apply Drawn0.step)⟩
  case round =>
    clear H'
    try clear c1
    try clear p2
    obtain ⟨x7_1, x8_1, rfl, rfl, HA, HK1, ⟨m1, rfl⟩⟩ := hrel
    cases gk with
    | zero => exact absurd HA.out (by simp [laws_sgBalanced.l0])
    | succ k1 =>
      have H := HA.out
      clear HA
      simp only [laws_sgBalanced.l0] at H
      have HC4 := Aside0.mk H
      clear H
      go_upto_region 3 with (fail)
      go_cut [16] (fun v16 wc => ∃ (kq : Nat) (x16_3 : Bool), v16 = .bool x16_3 ∧ Aside0 (laws_sgBalanced.j1 kq a0 a1 a2 x7_1 x8_1 x16_3 = some r) ∧ Aside0 (kq ≤ k1) ∧ Drawn0 w wc)
      case first =>
        have H := HC4.out
        clear HC4
        by_cases c5 : x8_1 < (a0.size : Int)
        · rw [if_pos c5] at H
          have c5b0 : decide (x8_1 < (a0.size : Int)) = true := decide_eq_true c5
          clear c5
          (first | rw [c5b0] | (simp only [i64_w, i32_w]; rw [c5b0]) | skip)
          have H' := Aside0.mk H
          clear H
          go_wp2
          go_meet
          case rel => exact ⟨_, (decide (x7_1 ≥ 0)), (by first | rfl | (simp; done) | (simp [*]; done)), H', ⟨by have := HK1.out; first | omega | exact Nat.le_refl _⟩, by repeat (first | exact Drawn0.refl _ | apply Drawn0.step)⟩
        · rw [if_neg c5] at H
          have c5b0 : decide (x8_1 < (a0.size : Int)) = false := decide_eq_false c5
          clear c5
          (first | rw [c5b0] | (simp only [i64_w, i32_w]; rw [c5b0]) | skip)
          have H' := Aside0.mk H
          clear H
          go_wp2
          go_meet
          case rel => exact ⟨_, (false), (by first | rfl | (simp; done) | (simp [*]; done)), H', ⟨by have := HK1.out; first | omega | exact Nat.le_refl _⟩, by repeat (first | exact Drawn0.refl _ | apply Drawn0.step)⟩
      case rest =>
        clear HC4
        try clear c1
        try clear p2
        try clear c5
        try clear c5b0
        try clear p2
        obtain ⟨kq, x16_3, rfl, HA, HJ3, ⟨mc3, rfl⟩⟩ := hcut
        cases kq with
        | zero => exact absurd HA.out (by simp [laws_sgBalanced.j1])
        | succ kj3 =>
          have H := HA.out
          clear HA
          simp only [laws_sgBalanced.j1] at H
          by_cases c6 : x16_3 = true
          · subst c6
            have H1 : (if 0 ≤ x8_1 then (if x8_1 < (a0.size : Int) then (if (bt a0 x8_1) = a1 then (laws_sgBalanced.l0 kj3 a0 a1 a2 (wrap64 (x7_1 + 1)) (wrap64 (x8_1 + 1))) else (if (bt a0 x8_1) = a2 then (laws_sgBalanced.l0 kj3 a0 a1 a2 (wrap64 (x7_1 - 1)) (wrap64 (x8_1 + 1))) else (laws_sgBalanced.l0 kj3 a0 a1 a2 x7_1 (wrap64 (x8_1 + 1))))) else (none)) else (none)) = some r := by rw [if_pos rfl] at H; exact H
            clear H
            have H := H1
            clear H1
            by_cases c7 : 0 ≤ x8_1
            · rw [if_pos c7] at H
              have c7b0 : decide (0 ≤ x8_1) = true := decide_eq_true c7
              clear c7
              by_cases c8 : x8_1 < (a0.size : Int)
              · rw [if_pos c8] at H
                have c8b0 : decide (x8_1 < (a0.size : Int)) = true := decide_eq_true c8
                clear c8
                by_cases c10 : (bt a0 x8_1) = a1
                · rw [if_pos c10] at H
                  have c10b0 : ((bt a0 x8_1) == a1) = true := beq_iff_eq.mpr c10
                  have c10b1 : ((bt a0 x8_1) != a1) = false := bne_eq_false_iff_eq.mpr c10
                  clear c10
                  have H' := Aside0.mk H
                  clear H
                  have p9 : 0 ≤ (x8_1 : Int) := of_decide_eq_true (by first | (with_reducible assumption) | assumption)
                  have q9 : x8_1 < (a0.size : Int) := of_decide_eq_true (by first | (with_reducible assumption) | assumption)
                  have hx9 := bt_at a0 x8_1
                  replace p9 := eq_true p9
                  replace q9 := eq_true q9
                  go_wp2
                  go_roundg kj3
                  case measure => have := HK1.out; have := HJ3.out; omega
                  case rel => exact ⟨(wrap64 (x7_1 + 1)), (wrap64 (x8_1 + 1)), (by first | rfl | (simp; done) | (simp [*]; done)), (by first | rfl | (simp; done) | (simp [*]; done)), H', ⟨by have := HK1.out; have := HJ3.out; omega⟩, by repeat (first | exact Drawn0.refl _ | apply Drawn0.step)⟩
                · rw [if_neg c10] at H
                  have c10b0 : ((bt a0 x8_1) == a1) = false := beq_eq_false_iff_ne.mpr c10
                  have c10b1 : ((bt a0 x8_1) != a1) = true := bne_iff_ne.mpr c10
                  by_cases c12 : (bt a0 x8_1) = a2
                  · rw [if_pos c12] at H
                    have c12b0 : ((bt a0 x8_1) == a2) = true := beq_iff_eq.mpr c12
                    have c12b1 : ((bt a0 x8_1) != a2) = false := bne_eq_false_iff_eq.mpr c12
                    clear c12
                    have H' := Aside0.mk H
                    clear H
                    have p9 : 0 ≤ (x8_1 : Int) := of_decide_eq_true (by first | (with_reducible assumption) | assumption)
                    have q9 : x8_1 < (a0.size : Int) := of_decide_eq_true (by first | (with_reducible assumption) | assumption)
                    have hx9 := bt_at a0 x8_1
                    replace p9 := eq_true p9
                    replace q9 := eq_true q9
                    have p11 : 0 ≤ (x8_1 : Int) := of_decide_eq_true (by first | (with_reducible assumption) | assumption)
                    have q11 : x8_1 < (a0.size : Int) := of_decide_eq_true (by first | (with_reducible assumption) | assumption)
                    have hx11 := bt_at a0 x8_1
                    replace p11 := eq_true p11
                    replace q11 := eq_true q11
                    go_wp2
                    go_roundg kj3
                    case measure => have := HK1.out; have := HJ3.out; omega
                    case rel => exact ⟨(wrap64 (x7_1 - 1)), (wrap64 (x8_1 + 1)), (by first | rfl | (simp; done) | (simp [*]; done)), (by first | rfl | (simp; done) | (simp [*]; done)), H', ⟨by have := HK1.out; have := HJ3.out; omega⟩, by repeat (first | exact Drawn0.refl _ | apply Drawn0.step)⟩
                  · rw [if_neg c12] at H
                    have c12b0 : ((bt a0 x8_1) == a2) = false := beq_eq_false_iff_ne.mpr c12
                    have c12b1 : ((bt a0 x8_1) != a2) = true := bne_iff_ne.mpr c12
                    have H' := Aside0.mk H
                    clear H
                    have p9 : 0 ≤ (x8_1 : Int) := of_decide_eq_true (by first | (with_reducible assumption) | assumption)
                    have q9 : x8_1 < (a0.size : Int) := of_decide_eq_true (by first | (with_reducible assumption) | assumption)
                    have hx9 := bt_at a0 x8_1
                    replace p9 := eq_true p9
                    replace q9 := eq_true q9
                    have p11 : 0 ≤ (x8_1 : Int) := of_decide_eq_true (by first | (with_reducible assumption) | assumption)
                    have q11 : x8_1 < (a0.size : Int) := of_decide_eq_true (by first | (with_reducible assumption) | assumption)
                    have hx11 := bt_at a0 x8_1
                    replace p11 := eq_true p11
                    replace q11 := eq_true q11
                    go_wp2
                    go_roundg kj3
                    case measure => have := HK1.out; have := HJ3.out; omega
                    case rel => exact ⟨(x7_1), (wrap64 (x8_1 + 1)), (by first | rfl | (simp; done) | (simp [*]; done)), (by first | rfl | (simp; done) | (simp [*]; done)), H', ⟨by have := HK1.out; have := HJ3.out; omega⟩, by repeat (first | exact Drawn0.refl _ | apply Drawn0.step)⟩
              · rw [if_neg c8] at H
                exact absurd H (by simp)
            · rw [if_neg c7] at H
              exact absurd H (by simp)
          · replace c6 := Bool.eq_false_iff.mpr c6
            subst c6
            have H1 : (some (x7_1 == 0)) = some r := by rw [if_neg (show ¬ (false = true) by decide)] at H; exact H
            clear H
            have H := H1
            clear H1
            obtain rfl := Option.some.inj H
            go_wp2
            go_ret
            exact ⟨by first | rfl | (simp; done) | (simp [*]; done), by repeat (first | exact Drawn0.refl _ | apply Drawn0.step)⟩

-- BY HAND: function 11 (impl_SgMatching), in Derived.Test.YtpndgbiaomglpaaExt1

end Go.Proofs.Ytpndgbiaomglpaa.Q
