-- Written by a program of this session out of the translation; Lean checks it.
import Derived.Test.YthhiijehdpchbaaQ0
import Derived.Test.YthhiijehdpchbaaQ5
namespace Go.Proofs.Ythhiijehdpchbaa.Q
open Go.RowKit Go.Proofs.Ythhiijehdpchbaa.Ext Go.Proofs.YthhiijehdpchbaaW.PrintWords Go.Proofs.YthhiijehdpchbaaW.PrintLast Go.Proofs.YthhiijehdpchbaaW.PrintMore
attribute [local go_sem] max2_int min2_int max_two min_two max_three min_three max_four min_four   -- for this text's walks alone
set_option linter.unusedVariables false
set_option linter.unusedSimpArgs false

/-! ### laws_FnSgInsert: function 8 -/
mutual
def laws_FnSgInsert.j0 : Nat → ByteArray → ByteArray → Int → Bool → Option (Bool)
  | 0, _, _, _, _ => none
  | k + 1, x0, x1, x2, x23 => if x23 = true then (some true) else ((spec_Types.f k x0).bind fun bt121 => (if bt121.2 = true then ((spec_Single.f k x1).bind fun t125 => (laws_FnSgInsert.j1 k x1 x2 bt121.1 (!t125))) else (laws_FnSgInsert.j1 k x1 x2 bt121.1 true)))
def laws_FnSgInsert.j1 : Nat → ByteArray → Int → List ByteArray → Bool → Option (Bool)
  | 0, _, _, _, _ => none
  | k + 1, x1, x2, x7, x35 => if x35 = true then (some true) else (if (wrap64 ((x7.length : Int) + 1)) = 0 then (none) else ((some (([] : List ByteArray) : List ByteArray)).bind fun y126 => (if 0 ≤ (Int.tmod (wrap64 (x2)) (wrap64 ((x7.length : Int) + 1))) then (if (Int.tmod (wrap64 (x2)) (wrap64 ((x7.length : Int) + 1))) ≤ (x7.length : Int) then ((some (x7.take ((Int.tmod (wrap64 (x2)) (wrap64 ((x7.length : Int) + 1))) : Int).toNat : List ByteArray)).bind fun y129 => (if y126.length + y129.length < 8796093022208 then ((some (y126 ++ y129 : List ByteArray)).bind fun y133 => ((some (([x1] : List ByteArray) : List ByteArray)).bind fun y136 => (if y133.length + y136.length < 8796093022208 then ((some (y133 ++ y136 : List ByteArray)).bind fun y139 => ((some (x7.drop ((Int.tmod (wrap64 (x2)) (wrap64 ((x7.length : Int) + 1))) : Int).toNat : List ByteArray)).bind fun y142 => (if y139.length + y142.length < 8796093022208 then ((some (y139 ++ y142 : List ByteArray)).bind fun y146 => ((spec_Joined.f k y146 (⟨#[]⟩ : ByteArray)).bind fun t149 => (if (t149.size : Int) > 255 then ((impl_SgParse.f k t149).bind fun bt150 => ((impl_SgParse.f k (⟨#[121]⟩ : ByteArray)).bind fun bt152 => (if bt150.2 = true then (some false) else (some bt152.2)))) else ((laws_sgWalk.f k t149 y146).bind fun t154 => (some t154))))) else (none)))) else (none)))) else (none))) else (none)) else (none))))
end
def laws_FnSgInsert.f (k : Nat) (a0 : ByteArray) (a1 : ByteArray) (a2 : Int) : Option (Bool) := if (a0.size : Int) > 2147483647 then (laws_FnSgInsert.j0 k a0 a1 a2 true) else (laws_FnSgInsert.j0 k a0 a1 a2 (decide ((a1.size : Int) > 2147483647)))
theorem laws_FnSgInsert.mono_l : ∀ k, (∀ y0 y1 y2 y3, LeO (laws_FnSgInsert.j0 k y0 y1 y2 y3) (laws_FnSgInsert.j0 (k + 1) y0 y1 y2 y3)) ∧ (∀ y0 y1 y2 y3, LeO (laws_FnSgInsert.j1 k y0 y1 y2 y3) (laws_FnSgInsert.j1 (k + 1) y0 y1 y2 y3))
  | 0 => ⟨fun _ _ _ _ r h => by simp [laws_FnSgInsert.j0] at h, fun _ _ _ _ r h => by simp [laws_FnSgInsert.j1] at h⟩
  | k + 1 => by
    obtain ⟨ih0, ih1⟩ := laws_FnSgInsert.mono_l k
    refine ⟨?_, ?_⟩
    · intro y0 y1 y2 y3
      unfold laws_FnSgInsert.j0
      repeat' first
      | (with_reducible exact ih0 _ _ _ _)
      | (with_reducible exact ih1 _ _ _ _)
      | (with_reducible exact impl_SgParse.mono _ _)
      | (with_reducible exact laws_sgWalk.mono _ _ _)
      | (with_reducible exact spec_Joined.mono _ _ _)
      | (with_reducible exact spec_Single.mono _ _)
      | (with_reducible exact spec_Types.mono _ _)
      | (with_reducible exact LeO.refl _)
      | (with_reducible exact LeO.none _)
      | (with_reducible refine LeO.ite ?_ ?_)
      | (with_reducible refine LeO.bind ?_ (fun _ => ?_))
      | exact ih0 _ _ _ _
      | exact ih1 _ _ _ _
      | exact impl_SgParse.mono _ _
      | exact laws_sgWalk.mono _ _ _
      | exact spec_Joined.mono _ _ _
      | exact spec_Single.mono _ _
      | exact spec_Types.mono _ _
      | exact LeO.none _
      | refine LeO.ite ?_ ?_
      | refine LeO.bind ?_ (fun _ => ?_)
    · intro y0 y1 y2 y3
      unfold laws_FnSgInsert.j1
      repeat' first
      | (with_reducible exact ih0 _ _ _ _)
      | (with_reducible exact ih1 _ _ _ _)
      | (with_reducible exact impl_SgParse.mono _ _)
      | (with_reducible exact laws_sgWalk.mono _ _ _)
      | (with_reducible exact spec_Joined.mono _ _ _)
      | (with_reducible exact spec_Single.mono _ _)
      | (with_reducible exact spec_Types.mono _ _)
      | (with_reducible exact LeO.refl _)
      | (with_reducible exact LeO.none _)
      | (with_reducible refine LeO.ite ?_ ?_)
      | (with_reducible refine LeO.bind ?_ (fun _ => ?_))
      | exact ih0 _ _ _ _
      | exact ih1 _ _ _ _
      | exact impl_SgParse.mono _ _
      | exact laws_sgWalk.mono _ _ _
      | exact spec_Joined.mono _ _ _
      | exact spec_Single.mono _ _
      | exact spec_Types.mono _ _
      | exact LeO.none _
      | refine LeO.ite ?_ ?_
      | refine LeO.bind ?_ (fun _ => ?_)
theorem laws_FnSgInsert.mono : ∀ a0 a1 a2 k, LeO (laws_FnSgInsert.f k a0 a1 a2) (laws_FnSgInsert.f (k + 1) a0 a1 a2) := by
  intro a0 a1 a2 k
  obtain ⟨ih0, ih1⟩ := laws_FnSgInsert.mono_l k
  unfold laws_FnSgInsert.f
  repeat' first
      | (with_reducible exact ih0 _ _ _ _)
      | (with_reducible exact ih1 _ _ _ _)
      | (with_reducible exact impl_SgParse.mono _ _)
      | (with_reducible exact laws_sgWalk.mono _ _ _)
      | (with_reducible exact spec_Joined.mono _ _ _)
      | (with_reducible exact spec_Single.mono _ _)
      | (with_reducible exact spec_Types.mono _ _)
      | (with_reducible exact LeO.refl _)
      | (with_reducible exact LeO.none _)
      | (with_reducible refine LeO.ite ?_ ?_)
      | (with_reducible refine LeO.bind ?_ (fun _ => ?_))
      | exact ih0 _ _ _ _
      | exact ih1 _ _ _ _
      | exact impl_SgParse.mono _ _
      | exact laws_sgWalk.mono _ _ _
      | exact spec_Joined.mono _ _ _
      | exact spec_Single.mono _ _
      | exact spec_Types.mono _ _
      | exact LeO.none _
      | refine LeO.ite ?_ ?_
      | refine LeO.bind ?_ (fun _ => ?_)
def laws_FnSgInsert.T7 : Bool × List (List Nat × List Nat) := (true, [([], []), ([], []), ([], []), ([1, 2], [1, 2]), ([0, 3], [0, 3]), ([], []), ([5], [5]), ([4, 6, 4], [4, 6]), ([], []), ([], []), ([8, 9], [8, 9]), ([7, 10, 7], [7, 10]), ([11, 11, 0, 1, 2, 3, 4, 5, 6, 7, 8, 9, 10, 11], [11])])
def laws_FnSgInsert.B7 : List Nat := [0, 0, 0, 6, 15, 0, 32, 127, 0, 0, 768, 2047, 4095]
theorem laws_FnSgInsert.tab7 : rtab .any (opsOf Try.f8 7) = laws_FnSgInsert.T7 := by kernel_rfl
theorem laws_FnSgInsert.bits7 : waitsOk laws_FnSgInsert.T7.2 laws_FnSgInsert.B7 = true := by kernel_rfl
set_option maxHeartbeats 8000000 in
set_option maxRecDepth 100000 in
theorem laws_FnSgInsert.calls (k : Nat) (a0 : ByteArray) (a1 : ByteArray) (a2 : Int) (r : Bool) (w : World) (h : laws_FnSgInsert.f k a0 a1 a2 = some r) :
    Calls Try.prog 8 #[.string a0, .string a1, .int .u8 a2] w fun e w' => e = .returned (.bool r) ∧ Below w.heap.size w w' := by
  have HB := Aside0.mk (Below.refl w.heap.size w)
  have H : (if (a0.size : Int) > 2147483647 then (laws_FnSgInsert.j0 k a0 a1 a2 true) else (laws_FnSgInsert.j0 k a0 a1 a2 (decide ((a1.size : Int) > 2147483647)))) = some r := h
  clear h
  have HC4 := Aside0.mk H
  clear H
  go_enter Try.func8, Try.ntmps8
  go_upto_region 1 with (fail)
  go_cut [23] (fun v23 wc => ∃ (kq : Nat) (x23_3 : Bool), v23 = .bool x23_3 ∧ Aside0 (laws_FnSgInsert.j0 kq a0 a1 a2 x23_3 = some r) ∧ Aside0 (kq ≤ k) ∧ Aside0 (Below w.heap.size w wc))
  case first =>
    have H := HC4.out
    clear HC4
    by_cases c5 : (a0.size : Int) > 2147483647
    · rw [if_pos c5] at H
      have c5b0 : decide (2147483647 < (a0.size : Int)) = true := decide_eq_true c5
      have c5b1 : decide (2147483647 < a0.size) = true := decide_eq_true (by omega)
      clear c5
      (first | rw [c5b0] | (simp only [i64_w, i32_w]; rw [c5b0]) | skip)
      have H' := Aside0.mk H
      clear H
      go_wp2
      go_meet
      case rel => exact ⟨_, (true), (by first | rfl | (simp; done) | (simp [*]; done)), H', ⟨by first | omega | exact Nat.le_refl _⟩, ⟨by repeat (first | (with_reducible first | exact HB.out | apply below_alloc | apply pw_below_drewN | apply below_drew1) | exact HB.out)⟩⟩
    · rw [if_neg c5] at H
      have c5b0 : decide (2147483647 < (a0.size : Int)) = false := decide_eq_false c5
      have c5b1 : decide (2147483647 < a0.size) = false := decide_eq_false (by omega)
      clear c5
      (first | rw [c5b0] | (simp only [i64_w, i32_w]; rw [c5b0]) | skip)
      have H' := Aside0.mk H
      clear H
      go_wp2
      go_meet
      case rel => exact ⟨_, (decide ((a1.size : Int) > 2147483647)), (by first | rfl | (simp; done) | (simp [*]; done)), H', ⟨by first | omega | exact Nat.le_refl _⟩, ⟨by repeat (first | (with_reducible first | exact HB.out | apply below_alloc | apply pw_below_drewN | apply below_drew1) | exact HB.out)⟩⟩
  case rest =>
    clear HC4
    try clear p2
    try clear c5
    try clear c5b0
    try clear c5b1
    obtain ⟨kq, x23_3, rfl, HA, HJ3, HB⟩ := hcut
    cases kq with
    | zero => exact absurd HA.out (by simp [laws_FnSgInsert.j0])
    | succ kj3 =>
      have H := HA.out
      clear HA
      simp only [laws_FnSgInsert.j0] at H
      by_cases c6 : x23_3 = true
      · subst c6
        have H1 : (some true) = some r := by rw [if_pos rfl] at H; exact H
        clear H
        have H := H1
        clear H1
        obtain rfl := Option.some.inj H
        go_wp2
        go_ret
        exact ⟨by first | rfl | (simp [errW_none, errW_some] <;> rfl) | (simp [*, errW_none, errW_some] <;> rfl), by repeat (first | (with_reducible first | exact HB.out | apply below_alloc | apply pw_below_drewN | apply below_drew1) | exact HB.out)⟩
      · replace c6 := Bool.eq_false_iff.mpr c6
        subst c6
        have H1 : ((spec_Types.f kj3 a0).bind fun bt121 => (if bt121.2 = true then ((spec_Single.f kj3 a1).bind fun t125 => (laws_FnSgInsert.j1 kj3 a1 a2 bt121.1 (!t125))) else (laws_FnSgInsert.j1 kj3 a1 a2 bt121.1 true))) = some r := by rw [if_neg (show ¬ (false = true) by decide)] at H; exact H
        clear H
        have H := H1
        clear H1
        replace H := Option.bind_eq_some_iff.mp H
        obtain ⟨⟨t121, t122⟩, A70, H⟩ := H
        replace H : (if t122 = true then ((spec_Single.f kj3 a1).bind fun t125 => (laws_FnSgInsert.j1 kj3 a1 a2 t121 (!t125))) else (laws_FnSgInsert.j1 kj3 a1 a2 t121 true)) = some r := H
        have A7 := Aside0.mk A70
        clear A70
        have HC8 := Aside0.mk H
        clear H
        go_upto_region 4 with (first | ((with_reducible refine gate_callee (f := 15) rfl ?_); refine goesL_ (some 26) rfl rfl Try.func15 (by kernel_rfl) rfl #[.string a0] rfl (by (try simp only [List.map_toArray, List.map_cons, List.map_nil]); first | done | rfl | (simp only [List.length_drop, List.length_take]; rfl)) ?_; (with_reducible refine (spec_Types.calls kj3 a0 t121 t122 _ A7.out).mono ?_); rintro e w9 ⟨v123, rfl, ho0, hb⟩; refine ⟨_, rfl, ?_⟩; have n0_ := Aside0.mk (Kd.R_lower ho0 (below_size (by repeat (first | (with_reducible first | exact HB.out | apply below_alloc | apply pw_below_drewN | apply below_drew1) | exact HB.out)))); have n1_ := Aside0.mk (below_step (by repeat (first | (with_reducible first | exact HB.out | apply below_alloc | apply pw_below_drewN | apply below_drew1) | exact HB.out)) hb); clear HB; have HO124 := n0_; have HB := n1_; clear n0_ n1_; (try clear hb); (try clear hb2); (try clear hk); (try clear hi); (try clear ho0)))
        (try simp only [Act.put, List.setIfInBounds_toArray, List.set_cons_zero, List.set_cons_succ])
        go_cut [35] (fun v35 wc => ∃ (kq : Nat) (x35_7 : Bool), v35 = .bool x35_7 ∧ Aside0 (laws_FnSgInsert.j1 kq a1 a2 t121 x35_7 = some r) ∧ Aside0 (kq ≤ kj3) ∧ Aside0 (Kd.R Kd.string 9 wc w.heap.size (fun _ => True) v123 t121) ∧ Aside0 (Below w.heap.size w wc))
        case first =>
          have H := HC8.out
          clear HC8
          by_cases c10 : t122 = true
          · subst c10
            have H1 : ((spec_Single.f kj3 a1).bind fun t125 => (laws_FnSgInsert.j1 kj3 a1 a2 t121 (!t125))) = some r := by rw [if_pos rfl] at H; exact H
            clear H
            have H := H1
            clear H1
            replace H := Option.bind_eq_some_iff.mp H
            obtain ⟨t125, A110, H⟩ := H
            replace H : (laws_FnSgInsert.j1 kj3 a1 a2 t121 (!t125)) = some r := H
            have A11 := Aside0.mk A110
            clear A110
            have H' := Aside0.mk H
            clear H
            go_wp2_with (first | (go_at_call 9; (with_reducible refine (spec_Single.calls kj3 a1 t125 _ A11.out).mono ?_); rintro e w12 ⟨rfl, hb⟩; have n0_ := Aside0.mk (Kd.R_below (by (with_reducible repeat (first | apply Kd.R_alloc | apply Kd.R_drewN | apply Kd.R_drew)); exact HO124.out) hb); have n1_ := Aside0.mk (below_step (by repeat (first | (with_reducible first | exact HB.out | apply below_alloc | apply pw_below_drewN | apply below_drew1) | exact HB.out)) hb); clear HO124; clear HB; have HO124 := n0_; have HB := n1_; clear n0_ n1_; (try clear hb); (try clear hb2); (try clear hk); (try clear hi)))
            go_meet
            case rel => exact ⟨_, (!t125), (by first | rfl | (simp; done) | (simp [*]; done)), H', ⟨by have := HJ3.out; first | omega | exact Nat.le_refl _⟩, ⟨by (with_reducible repeat (first | apply Kd.R_alloc | apply Kd.R_drewN | apply Kd.R_drew)); exact HO124.out⟩, ⟨by repeat (first | (with_reducible first | exact HB.out | apply below_alloc | apply pw_below_drewN | apply below_drew1) | exact HB.out)⟩⟩
          · replace c10 := Bool.eq_false_iff.mpr c10
            subst c10
            have H1 : (laws_FnSgInsert.j1 kj3 a1 a2 t121 true) = some r := by rw [if_neg (show ¬ (false = true) by decide)] at H; exact H
            clear H
            have H := H1
            clear H1
            have H' := Aside0.mk H
            clear H
            go_wp2
            go_meet
            case rel => exact ⟨_, (true), (by first | rfl | (simp; done) | (simp [*]; done)), H', ⟨by have := HJ3.out; first | omega | exact Nat.le_refl _⟩, ⟨by (with_reducible repeat (first | apply Kd.R_alloc | apply Kd.R_drewN | apply Kd.R_drew)); exact HO124.out⟩, ⟨by repeat (first | (with_reducible first | exact HB.out | apply below_alloc | apply pw_below_drewN | apply below_drew1) | exact HB.out)⟩⟩
        case rest =>
          clear HC8
          try clear c1
          try clear p2
          try clear c5
          try clear c5b0
          try clear c5b1
          try clear c6
          try clear c8
          try clear c10
          try clear p2
          obtain ⟨kq, x35_7, rfl, HA, HJ7, HO_7, HB⟩ := hcut
          cases kq with
          | zero => exact absurd HA.out (by simp [laws_FnSgInsert.j1])
          | succ kj7 =>
            have H := HA.out
            clear HA
            simp only [laws_FnSgInsert.j1] at H
            by_cases c13 : x35_7 = true
            · subst c13
              have H1 : (some true) = some r := by rw [if_pos rfl] at H; exact H
              clear H
              have H := H1
              clear H1
              obtain rfl := Option.some.inj H
              go_wp2
              go_ret
              exact ⟨by first | rfl | (simp [errW_none, errW_some] <;> rfl) | (simp [*, errW_none, errW_some] <;> rfl), by repeat (first | (with_reducible first | exact HB.out | apply below_alloc | apply pw_below_drewN | apply below_drew1) | exact HB.out)⟩
            · replace c13 := Bool.eq_false_iff.mpr c13
              subst c13
              have H1 : (if (wrap64 ((t121.length : Int) + 1)) = 0 then (none) else ((some (([] : List ByteArray) : List ByteArray)).bind fun y126 => (if 0 ≤ (Int.tmod (wrap64 (a2)) (wrap64 ((t121.length : Int) + 1))) then (if (Int.tmod (wrap64 (a2)) (wrap64 ((t121.length : Int) + 1))) ≤ (t121.length : Int) then ((some (t121.take ((Int.tmod (wrap64 (a2)) (wrap64 ((t121.length : Int) + 1))) : Int).toNat : List ByteArray)).bind fun y129 => (if y126.length + y129.length < 8796093022208 then ((some (y126 ++ y129 : List ByteArray)).bind fun y133 => ((some (([a1] : List ByteArray) : List ByteArray)).bind fun y136 => (if y133.length + y136.length < 8796093022208 then ((some (y133 ++ y136 : List ByteArray)).bind fun y139 => ((some (t121.drop ((Int.tmod (wrap64 (a2)) (wrap64 ((t121.length : Int) + 1))) : Int).toNat : List ByteArray)).bind fun y142 => (if y139.length + y142.length < 8796093022208 then ((some (y139 ++ y142 : List ByteArray)).bind fun y146 => ((spec_Joined.f kj7 y146 (⟨#[]⟩ : ByteArray)).bind fun t149 => (if (t149.size : Int) > 255 then ((impl_SgParse.f kj7 t149).bind fun bt150 => ((impl_SgParse.f kj7 (⟨#[121]⟩ : ByteArray)).bind fun bt152 => (if bt150.2 = true then (some false) else (some bt152.2)))) else ((laws_sgWalk.f kj7 t149 y146).bind fun t154 => (some t154))))) else (none)))) else (none)))) else (none))) else (none)) else (none)))) = some r := by rw [if_neg (show ¬ (false = true) by decide)] at H; exact H
              clear H
              have H := H1
              clear H1
              by_cases c14 : (wrap64 ((t121.length : Int) + 1)) = 0
              · rw [if_pos c14] at H
                exact absurd H (by simp)
              · rw [if_neg c14] at H
                have c14b0 : ((wrap64 ((t121.length : Int) + 1)) == 0) = false := beq_eq_false_iff_ne.mpr c14
                have c14b1 : ((wrap64 ((t121.length : Int) + 1)) != 0) = true := bne_iff_ne.mpr c14
                obtain ⟨y126, hy126⟩ : ∃ y_ : List ByteArray, y_ = (([] : List ByteArray)) := ⟨_, rfl⟩
                replace H : (if 0 ≤ (Int.tmod (wrap64 (a2)) (wrap64 ((t121.length : Int) + 1))) then (if (Int.tmod (wrap64 (a2)) (wrap64 ((t121.length : Int) + 1))) ≤ (t121.length : Int) then ((some (t121.take ((Int.tmod (wrap64 (a2)) (wrap64 ((t121.length : Int) + 1))) : Int).toNat : List ByteArray)).bind fun y129 => (if y126.length + y129.length < 8796093022208 then ((some (y126 ++ y129 : List ByteArray)).bind fun y133 => ((some (([a1] : List ByteArray) : List ByteArray)).bind fun y136 => (if y133.length + y136.length < 8796093022208 then ((some (y133 ++ y136 : List ByteArray)).bind fun y139 => ((some (t121.drop ((Int.tmod (wrap64 (a2)) (wrap64 ((t121.length : Int) + 1))) : Int).toNat : List ByteArray)).bind fun y142 => (if y139.length + y142.length < 8796093022208 then ((some (y139 ++ y142 : List ByteArray)).bind fun y146 => ((spec_Joined.f kj7 y146 (⟨#[]⟩ : ByteArray)).bind fun t149 => (if (t149.size : Int) > 255 then ((impl_SgParse.f kj7 t149).bind fun bt150 => ((impl_SgParse.f kj7 (⟨#[121]⟩ : ByteArray)).bind fun bt152 => (if bt150.2 = true then (some false) else (some bt152.2)))) else ((laws_sgWalk.f kj7 t149 y146).bind fun t154 => (some t154))))) else (none)))) else (none)))) else (none))) else (none)) else (none)) = some r := by first | (rw [hy126]; with_reducible exact H) | (have H2_ := (Option.bind_some _ _).symm.trans H; rw [hy126]; with_reducible exact H2_) | (have H2_ := (Option.bind_some _ _).symm.trans H; with_reducible exact H2_) | with_reducible exact H | (rw [hy126]; exact H) | exact H
                have Ny126 := Aside0.mk hy126
                clear hy126
                obtain ⟨ji15, hji15⟩ : ∃ j_ : Int, (Int.tmod (wrap64 (a2)) (wrap64 ((t121.length : Int) + 1))) = j_ := ⟨_, rfl⟩
                replace H : (if 0 ≤ (ji15) then (if (ji15) ≤ (t121.length : Int) then ((some (t121.take ((ji15) : Int).toNat : List ByteArray)).bind fun y129 => (if y126.length + y129.length < 8796093022208 then ((some (y126 ++ y129 : List ByteArray)).bind fun y133 => ((some (([a1] : List ByteArray) : List ByteArray)).bind fun y136 => (if y133.length + y136.length < 8796093022208 then ((some (y133 ++ y136 : List ByteArray)).bind fun y139 => ((some (t121.drop ((ji15) : Int).toNat : List ByteArray)).bind fun y142 => (if y139.length + y142.length < 8796093022208 then ((some (y139 ++ y142 : List ByteArray)).bind fun y146 => ((spec_Joined.f kj7 y146 (⟨#[]⟩ : ByteArray)).bind fun t149 => (if (t149.size : Int) > 255 then ((impl_SgParse.f kj7 t149).bind fun bt150 => ((impl_SgParse.f kj7 (⟨#[121]⟩ : ByteArray)).bind fun bt152 => (if bt150.2 = true then (some false) else (some bt152.2)))) else ((laws_sgWalk.f kj7 t149 y146).bind fun t154 => (some t154))))) else (none)))) else (none)))) else (none))) else (none)) else (none)) = some r := by first | (rw [hji15] at H; exact H) | (simp only [hji15] at H ⊢; exact H)
                by_cases c16 : 0 ≤ (ji15)
                · rw [if_pos c16] at H
                  have c16b0 := eq_true c16
                  have c16b1 : decide (0 ≤ (ji15)) = true := decide_eq_true c16
                  clear c16
                  by_cases c17 : (ji15) ≤ (t121.length : Int)
                  · rw [if_pos c17] at H
                    have c17b0 := eq_true c17
                    have c17b1 : decide ((ji15) ≤ (t121.length : Int)) = true := decide_eq_true c17
                    clear c17
                    obtain ⟨y129, hy129⟩ : ∃ y_ : List ByteArray, y_ = (t121.take ((ji15) : Int).toNat) := ⟨_, rfl⟩
                    replace H : (if y126.length + y129.length < 8796093022208 then ((some (y126 ++ y129 : List ByteArray)).bind fun y133 => ((some (([a1] : List ByteArray) : List ByteArray)).bind fun y136 => (if y133.length + y136.length < 8796093022208 then ((some (y133 ++ y136 : List ByteArray)).bind fun y139 => ((some (t121.drop ((ji15) : Int).toNat : List ByteArray)).bind fun y142 => (if y139.length + y142.length < 8796093022208 then ((some (y139 ++ y142 : List ByteArray)).bind fun y146 => ((spec_Joined.f kj7 y146 (⟨#[]⟩ : ByteArray)).bind fun t149 => (if (t149.size : Int) > 255 then ((impl_SgParse.f kj7 t149).bind fun bt150 => ((impl_SgParse.f kj7 (⟨#[121]⟩ : ByteArray)).bind fun bt152 => (if bt150.2 = true then (some false) else (some bt152.2)))) else ((laws_sgWalk.f kj7 t149 y146).bind fun t154 => (some t154))))) else (none)))) else (none)))) else (none)) = some r := by first | (rw [hy129]; with_reducible exact H) | (have H2_ := (Option.bind_some _ _).symm.trans H; rw [hy129]; with_reducible exact H2_) | (have H2_ := (Option.bind_some _ _).symm.trans H; with_reducible exact H2_) | with_reducible exact H | (rw [hy129]; exact H) | exact H
                    have Ny129 := Aside0.mk hy129
                    clear hy129
                    by_cases c18 : y126.length + y129.length < 8796093022208
                    · rw [if_pos c18] at H
                      have LMc18 := Aside0.mk c18
                      clear c18
                      obtain ⟨y133, hy133⟩ : ∃ y_ : List ByteArray, y_ = (y126 ++ y129) := ⟨_, rfl⟩
                      replace H : ((some (([a1] : List ByteArray) : List ByteArray)).bind fun y136 => (if y133.length + y136.length < 8796093022208 then ((some (y133 ++ y136 : List ByteArray)).bind fun y139 => ((some (t121.drop ((ji15) : Int).toNat : List ByteArray)).bind fun y142 => (if y139.length + y142.length < 8796093022208 then ((some (y139 ++ y142 : List ByteArray)).bind fun y146 => ((spec_Joined.f kj7 y146 (⟨#[]⟩ : ByteArray)).bind fun t149 => (if (t149.size : Int) > 255 then ((impl_SgParse.f kj7 t149).bind fun bt150 => ((impl_SgParse.f kj7 (⟨#[121]⟩ : ByteArray)).bind fun bt152 => (if bt150.2 = true then (some false) else (some bt152.2)))) else ((laws_sgWalk.f kj7 t149 y146).bind fun t154 => (some t154))))) else (none)))) else (none))) = some r := by first | (rw [hy133]; with_reducible exact H) | (have H2_ := (Option.bind_some _ _).symm.trans H; rw [hy133]; with_reducible exact H2_) | (have H2_ := (Option.bind_some _ _).symm.trans H; with_reducible exact H2_) | with_reducible exact H | (rw [hy133]; exact H) | exact H
                      have Ny133 := Aside0.mk hy133
                      clear hy133
                      obtain ⟨y136, hy136⟩ : ∃ y_ : List ByteArray, y_ = (([a1] : List ByteArray)) := ⟨_, rfl⟩
                      replace H : (if y133.length + y136.length < 8796093022208 then ((some (y133 ++ y136 : List ByteArray)).bind fun y139 => ((some (t121.drop ((ji15) : Int).toNat : List ByteArray)).bind fun y142 => (if y139.length + y142.length < 8796093022208 then ((some (y139 ++ y142 : List ByteArray)).bind fun y146 => ((spec_Joined.f kj7 y146 (⟨#[]⟩ : ByteArray)).bind fun t149 => (if (t149.size : Int) > 255 then ((impl_SgParse.f kj7 t149).bind fun bt150 => ((impl_SgParse.f kj7 (⟨#[121]⟩ : ByteArray)).bind fun bt152 => (if bt150.2 = true then (some false) else (some bt152.2)))) else ((laws_sgWalk.f kj7 t149 y146).bind fun t154 => (some t154))))) else (none)))) else (none)) = some r := by first | (rw [hy136]; with_reducible exact H) | (have H2_ := (Option.bind_some _ _).symm.trans H; rw [hy136]; with_reducible exact H2_) | (have H2_ := (Option.bind_some _ _).symm.trans H; with_reducible exact H2_) | with_reducible exact H | (rw [hy136]; exact H) | exact H
                      have Ny136 := Aside0.mk hy136
                      clear hy136
                      by_cases c19 : y133.length + y136.length < 8796093022208
                      · rw [if_pos c19] at H
                        have LMc19 := Aside0.mk c19
                        clear c19
                        obtain ⟨y139, hy139⟩ : ∃ y_ : List ByteArray, y_ = (y133 ++ y136) := ⟨_, rfl⟩
                        replace H : ((some (t121.drop ((ji15) : Int).toNat : List ByteArray)).bind fun y142 => (if y139.length + y142.length < 8796093022208 then ((some (y139 ++ y142 : List ByteArray)).bind fun y146 => ((spec_Joined.f kj7 y146 (⟨#[]⟩ : ByteArray)).bind fun t149 => (if (t149.size : Int) > 255 then ((impl_SgParse.f kj7 t149).bind fun bt150 => ((impl_SgParse.f kj7 (⟨#[121]⟩ : ByteArray)).bind fun bt152 => (if bt150.2 = true then (some false) else (some bt152.2)))) else ((laws_sgWalk.f kj7 t149 y146).bind fun t154 => (some t154))))) else (none))) = some r := by first | (rw [hy139]; with_reducible exact H) | (have H2_ := (Option.bind_some _ _).symm.trans H; rw [hy139]; with_reducible exact H2_) | (have H2_ := (Option.bind_some _ _).symm.trans H; with_reducible exact H2_) | with_reducible exact H | (rw [hy139]; exact H) | exact H
                        have Ny139 := Aside0.mk hy139
                        clear hy139
                        have c20b0 := eq_true (of_decide_eq_true (by first | (with_reducible assumption) | assumption) : 0 ≤ (ji15))
                        have c21b0 := eq_true (of_decide_eq_true (by first | (with_reducible assumption) | assumption) : (ji15) ≤ (t121.length : Int))
                        obtain ⟨y142, hy142⟩ : ∃ y_ : List ByteArray, y_ = (t121.drop ((ji15) : Int).toNat) := ⟨_, rfl⟩
                        replace H : (if y139.length + y142.length < 8796093022208 then ((some (y139 ++ y142 : List ByteArray)).bind fun y146 => ((spec_Joined.f kj7 y146 (⟨#[]⟩ : ByteArray)).bind fun t149 => (if (t149.size : Int) > 255 then ((impl_SgParse.f kj7 t149).bind fun bt150 => ((impl_SgParse.f kj7 (⟨#[121]⟩ : ByteArray)).bind fun bt152 => (if bt150.2 = true then (some false) else (some bt152.2)))) else ((laws_sgWalk.f kj7 t149 y146).bind fun t154 => (some t154))))) else (none)) = some r := by first | (rw [hy142]; with_reducible exact H) | (have H2_ := (Option.bind_some _ _).symm.trans H; rw [hy142]; with_reducible exact H2_) | (have H2_ := (Option.bind_some _ _).symm.trans H; with_reducible exact H2_) | with_reducible exact H | (rw [hy142]; exact H) | exact H
                        have Ny142 := Aside0.mk hy142
                        clear hy142
                        by_cases c22 : y139.length + y142.length < 8796093022208
                        · rw [if_pos c22] at H
                          have LMc22 := Aside0.mk c22
                          clear c22
                          obtain ⟨y146, hy146⟩ : ∃ y_ : List ByteArray, y_ = (y139 ++ y142) := ⟨_, rfl⟩
                          replace H : ((spec_Joined.f kj7 y146 (⟨#[]⟩ : ByteArray)).bind fun t149 => (if (t149.size : Int) > 255 then ((impl_SgParse.f kj7 t149).bind fun bt150 => ((impl_SgParse.f kj7 (⟨#[121]⟩ : ByteArray)).bind fun bt152 => (if bt150.2 = true then (some false) else (some bt152.2)))) else ((laws_sgWalk.f kj7 t149 y146).bind fun t154 => (some t154)))) = some r := by first | (rw [hy146]; with_reducible exact H) | (have H2_ := (Option.bind_some _ _).symm.trans H; rw [hy146]; with_reducible exact H2_) | (have H2_ := (Option.bind_some _ _).symm.trans H; with_reducible exact H2_) | with_reducible exact H | (rw [hy146]; exact H) | exact H
                          have Ny146 := Aside0.mk hy146
                          clear hy146
                          replace H := Option.bind_eq_some_iff.mp H
                          obtain ⟨t149, A230, H⟩ := H
                          replace H : (if (t149.size : Int) > 255 then ((impl_SgParse.f kj7 t149).bind fun bt150 => ((impl_SgParse.f kj7 (⟨#[121]⟩ : ByteArray)).bind fun bt152 => (if bt150.2 = true then (some false) else (some bt152.2)))) else ((laws_sgWalk.f kj7 t149 y146).bind fun t154 => (some t154))) = some r := H
                          have A23 := Aside0.mk A230
                          clear A230
                          by_cases c24 : (t149.size : Int) > 255
                          · rw [if_pos c24] at H
                            have c24b0 : decide (255 < (t149.size : Int)) = true := decide_eq_true c24
                            have c24b1 : decide (255 < t149.size) = true := decide_eq_true (by omega)
                            clear c24
                            replace H := Option.bind_eq_some_iff.mp H
                            obtain ⟨⟨t150, t151⟩, A250, H⟩ := H
                            replace H : ((impl_SgParse.f kj7 (⟨#[121]⟩ : ByteArray)).bind fun bt152 => (if t151 = true then (some false) else (some bt152.2))) = some r := H
                            have A25 := Aside0.mk A250
                            clear A250
                            replace H := Option.bind_eq_some_iff.mp H
                            obtain ⟨⟨t152, t153⟩, A260, H⟩ := H
                            replace H : (if t151 = true then (some false) else (some t153)) = some r := H
                            have A26 := Aside0.mk A260
                            clear A260
                            by_cases c27 : t151 = true
                            · subst c27
                              have H1 : (some false) = some r := by rw [if_pos rfl] at H; exact H
                              clear H
                              have H := H1
                              clear H1
                              obtain rfl := Option.some.inj H
                              obtain ⟨Ao28, co28, eo28⟩ := Kd.R_slice HO_7.out
                              subst eo28
                              try go_wp2
                              have n0_ := Aside0.mk (Kd.R_drew HO_7.out)
                              have n1_ := Aside0.mk (below_drew1 HB.out)
                              clear HO_7
                              clear HB
                              have HO_7 := n0_
                              have HB := n1_
                              clear n0_ n1_
                              have q30 : ((ji15) : Int) ≤ ((t121.length : Int) : Int) := of_decide_eq_true (by first | (with_reducible assumption) | assumption)
                              obtain ⟨i030, hi030, _, hsz30, _⟩ := info_parts info9
                              have hroom30 : t121.length ≤ co28 := (Kd.R_reads' HO_7.out).2.1
                              have hC30 : Kd.C Kd.string _ Ao28 t121.length t121 := (Kd.R_reads' HO_7.out).2.2
                              have hcut30 := cut_to (P := Try.prog) 30 9 .i64 Try.underlying30 hi030 Ao28 t121.length co28 (ji15) (of_decide_eq_true (by first | (with_reducible assumption) | assumption)) q30 hroom30
                              have hr30 := Kd.C_take (m := ((ji15) : Int).toNat) hC30 (by omega)
                              have hy30 : y129.length = ((ji15) : Int).toNat := (by rw [Ny129.out, List.length_take]; omega)
                              rw [← Ny129.out] at hr30
                              rw [← hy30] at hcut30
                              have HR132 := Aside0.mk hr30
                              have HC132 := Aside0.mk (show y129.length ≤ co28 from by omega)
                              clear hr30 hC30 hroom30 hi030 hsz30
                              have KY30 := Aside0.mk hy30
                              clear hy30
                              have KL30 := Aside0.mk (show ((ji15) : Int).toNat ≤ t121.length from by omega)
                              replace q30 := eq_true q30
                              have q31 : ((ji15) : Int) ≤ ((t121.length : Int) : Int) := of_decide_eq_true (by first | (with_reducible assumption) | assumption)
                              obtain ⟨i031, hi031, _, hsz31, _⟩ := info_parts info9
                              have hroom31 : t121.length ≤ co28 := (Kd.R_reads' HO_7.out).2.1
                              have hC31 : Kd.C Kd.string _ Ao28 t121.length t121 := (Kd.R_reads' HO_7.out).2.2
                              have q031 : (0 : Int) ≤ ((ji15) : Int) := of_decide_eq_true (by first | (with_reducible assumption) | assumption)
                              have hcut31 := cut_from (P := Try.prog) 30 9 .i64 Try.underlying30 hi031 1 hsz31 Ao28 t121.length co28 (ji15) q031 q31
                              have hr31 := Kd.C_drop (m := ((ji15) : Int).toNat) (c := co28) hC31 (by omega) hroom31
                              obtain ⟨A31, hA31⟩ : ∃ A1, A1 = (if co28 = ((ji15) : Int).toNat then Ao28 else (Ao28 : Option Addr).map (·.add (((ji15) : Int).toNat * 1))) := ⟨_, rfl⟩
                              obtain ⟨c31, hc31⟩ : ∃ c1, c1 = co28 - ((ji15) : Int).toNat := ⟨_, rfl⟩
                              have hy31 : y142.length = t121.length - ((ji15) : Int).toNat := (by rw [Ny142.out, List.length_drop] <;> omega)
                              rw [show (t121).drop ((ji15) : Int).toNat = y142 from Ny142.out.symm] at hr31
                              replace hr31 : Kd.C Kd.string _ A31 y142.length y142 := (by rw [hA31]; exact hr31)
                              rw [← hy31, ← hA31, ← hc31] at hcut31
                              have HR145 := Aside0.mk hr31
                              have HC145 := Aside0.mk (show y142.length ≤ c31 from by rw [hy31, hc31]; exact Nat.sub_le_sub_right hroom31 _)
                              clear hr31 hC31 hroom31 hi031 hsz31 hc31
                              have KY31 := Aside0.mk hy31
                              have KA31 := Aside0.mk hA31
                              clear hy31 hA31
                              have KL31 := Aside0.mk (show ((ji15) : Int).toNat ≤ t121.length from by omega)
                              replace q31 := eq_true q31
                              refine start_ (n := 13) (S := fun w' => True) (ds := []) #[false, false, false, false, false, false, false, false, false, false, false, false, false] (by kernel_rfl) rfl rfl trivial (fun hHeld => ?_); refine with_tabW laws_FnSgInsert.tab7 laws_FnSgInsert.bits7 (fun HT_ HW_ => ?_)
                              generalize wc.drew = w29 at HO_7 HB HR132 HR145 hHeld ⊢
                              refine pure_ (i := 1) (N := some 43) (v := ?_) (a' := ?_) #[false, true, false, false, false, false, false, false, false, false, false, false, false] rfl rfl (any_of HT_.out (by kernel_rfl)) (fun _ _ _ h => h) (Or.inl ⟨by rfl, ?_⟩) ?_ ?_
                              rotate_left
                              · intro w'
                                go_simp
                                with_reducible rfl
                              rotate_left
                              · simp only [Act.put, List.setIfInBounds_toArray, List.set_cons_zero, List.set_cons_succ, i64_w, i32_w]
                                rfl
                              refine pure_ (i := 2) (N := some 44) (v := ?_) (a' := ?_) #[false, true, true, false, false, false, false, false, false, false, false, false, false] rfl rfl (any_of HT_.out (by kernel_rfl)) (fun _ _ _ h => h) (Or.inl ⟨by rfl, ?_⟩) ?_ ?_
                              rotate_left
                              · intro w'
                                go_simp
                                with_reducible rfl
                              rotate_left
                              · simp only [Act.put, List.setIfInBounds_toArray, List.set_cons_zero, List.set_cons_succ, i64_w, i32_w]
                                rfl
                              refine pure_ (i := 3) (N := some 45) (v := ?_) (a' := ?_) #[false, true, true, true, false, false, false, false, false, false, false, false, false] rfl rfl (any_of HT_.out (by kernel_rfl)) (fun _ _ _ h => h) (Or.inl ⟨by rfl, ?_⟩) ?_ ?_
                              rotate_left
                              · intro w'
                                go_simp
                                with_reducible rfl
                              rotate_left
                              · simp only [Act.put, List.setIfInBounds_toArray, List.set_cons_zero, List.set_cons_succ, i64_w, i32_w]
                                rfl
                              refine pure_ (i := 5) (N := some 47) (v := ?_) (a' := ?_) #[false, true, true, true, false, true, false, false, false, false, false, false, false] rfl rfl (any_of HT_.out (by kernel_rfl)) (fun _ _ _ h => h) (Or.inl ⟨by rfl, ?_⟩) ?_ ?_
                              rotate_left
                              · intro w'
                                go_simp
                                with_reducible rfl
                              rotate_left
                              · simp only [Act.put, List.setIfInBounds_toArray, List.set_cons_zero, List.set_cons_succ, i64_w, i32_w]
                                rfl
                              refine pure_ (i := 8) (N := some 50) (v := ?_) (a' := ?_) #[false, true, true, true, false, true, false, false, true, false, false, false, false] rfl rfl (any_of HT_.out (by kernel_rfl)) (fun _ _ _ h => h) (Or.inl ⟨by rfl, ?_⟩) ?_ ?_
                              rotate_left
                              · intro w'
                                go_simp
                                with_reducible rfl
                              rotate_left
                              · simp only [Act.put, List.setIfInBounds_toArray, List.set_cons_zero, List.set_cons_succ, i64_w, i32_w]
                                rfl
                              refine pure_ (i := 9) (N := some 51) (v := ?_) (a' := ?_) #[false, true, true, true, false, true, false, false, true, true, false, false, false] rfl rfl (any_of HT_.out (by kernel_rfl)) (fun _ _ _ h => h) (Or.inl ⟨by rfl, ?_⟩) ?_ ?_
                              rotate_left
                              · intro w'
                                go_simp
                                with_reducible rfl
                              rotate_left
                              · simp only [Act.put, List.setIfInBounds_toArray, List.set_cons_zero, List.set_cons_succ, i64_w, i32_w]
                                rfl
                              refine pure_ (i := 10) (N := some 52) (v := ?_) (a' := ?_) #[false, true, true, true, false, true, false, false, true, true, true, false, false] rfl rfl (any_of HT_.out (by kernel_rfl)) (fun _ _ _ h => h) (Or.inl ⟨by rfl, ?_⟩) ?_ ?_
                              rotate_left
                              · intro w'
                                go_simp
                                with_reducible rfl
                              rotate_left
                              · simp only [Act.put, List.setIfInBounds_toArray, List.set_cons_zero, List.set_cons_succ, i64_w, i32_w]
                                rfl
                              refine join_ (σ := Value × Value × Value) 3 #[true, true, true, true, true, true, true, false, true, true, true, false, false] (fun s_ => [(42, s_.1), (46, s_.2.1), (48, s_.2.2)]) (fun s_ w' => (Kd.R Kd.string 9 w' w.heap.size (fun k_ => some k_ ≠ (s_.2.2 : Value).ownBlock ∧ some k_ ≠ (.slice Ao28 t121.length co28 : Value).ownBlock) s_.2.1 y133) ∧ (Kd.R Kd.string 9 w' w.heap.size (fun k_ => some k_ ≠ (s_.2.1 : Value).ownBlock ∧ some k_ ≠ (.slice Ao28 t121.length co28 : Value).ownBlock) s_.2.2 y136) ∧ (Kd.R Kd.string 9 w' w.heap.size (fun k_ => some k_ ≠ (s_.2.1 : Value).ownBlock ∧ some k_ ≠ (s_.2.2 : Value).ownBlock) (.slice Ao28 t121.length co28) t121) ∧ (Below w.heap.size w w')) ?_ ?_
                              rotate_left
                              · intro hCont
                                refine two_ (i := 0) (j := 6) (Ni := some 42) (Nj := some 48) #[true, true, true, true, false, true, false, false, true, true, true, false, false] #[false, true, true, true, false, true, true, false, true, true, true, false, false] rfl rfl rfl rfl (two_of HT_.out (by kernel_rfl)) (by decide) (by decide) (fun K hK => ?_) (fun K hK => ?_)
                                · skip
                                  refine Kd.R_lit_step Kd.string _ 9 ?hg (N := 42) ?hd (xs := ([] : List ByteArray)) (inner := []) (ok := fun _ => True) (okp := fun _ => True) ?hr ?hp (fun _ hk => hk) trivial (Below.refl _ _) (Nat.le_refl _) (by simp) ?_; (case hd => rfl); (case hg => rfl); (case hr => first | (go_simp; done) | (go_simp; rfl)); (case hp => exact (Reps.none _ _))
                                  intro v127 w32 ho33 hb hg_ hnew_
                                  clear hg_ hnew_
                                  (first | rw [← Ny126.out] at ho33 | (simp only [Int.reduceToNat] at ho33; rw [← Ny126.out] at ho33))
                                  have n0_ := Aside0.mk (Kd.R_elder' (by (with_reducible repeat (first | apply Kd.R_alloc | apply Kd.R_drewN | apply Kd.R_drew)); exact HO_7.out) (Kd.R_base ho33) hb)
                                  have n1_ := Aside0.mk (Kd.R_lower (Kd.R_new' ho33 (Kd.R_lt (by (with_reducible repeat (first | apply Kd.R_alloc | apply Kd.R_drewN | apply Kd.R_drew)); exact HO_7.out))) (below_size (by repeat (first | (with_reducible first | exact HB.out | apply below_alloc | apply pw_below_drewN | apply below_drew1) | exact HB.out))))
                                  have n2_ := Aside0.mk (Kd.C_below (by repeat (first | (with_reducible exact HR132.out) | (with_reducible refine Kd.C_alloc ?_ _) | (with_reducible refine Kd.C_drewN ?_ _) | (with_reducible refine Kd.C_drew ?_) | exact HR132.out)) hb)
                                  have n3_ := Aside0.mk (Kd.C_below (by repeat (first | (with_reducible exact HR145.out) | (with_reducible refine Kd.C_alloc ?_ _) | (with_reducible refine Kd.C_drewN ?_ _) | (with_reducible refine Kd.C_drew ?_) | exact HR145.out)) hb)
                                  have n4_ := Aside0.mk (below_step (by repeat (first | (with_reducible first | exact HB.out | apply below_alloc | apply pw_below_drewN | apply below_drew1) | exact HB.out)) hb)
                                  clear HO_7
                                  clear HR132
                                  clear HR145
                                  clear HB
                                  have HO_7 := n0_
                                  have HO128 := n1_
                                  have HR132 := n2_
                                  have HR145 := n3_
                                  have HB := n4_
                                  clear n0_ n1_ n2_ n3_ n4_
                                  clear hb ho33
                                  refine hK.out _ _ trivial (fun hHeld => ?_)
                                  clear hK K
                                  refine norm_ (a' := ?_) ?_ ?_
                                  rotate_left
                                  · show Act.put _ (some 42) _ = _
                                    simp only [Act.put, List.setIfInBounds_toArray, List.set_cons_zero, List.set_cons_succ, i64_w, i32_w]
                                    rfl
                                  refine two_ (i := 4) (j := 6) (Ni := some 46) (Nj := some 48) #[true, true, true, true, true, true, false, false, true, true, true, false, false] #[true, true, true, true, false, true, true, false, true, true, true, false, false] rfl rfl rfl rfl (two_of HT_.out (by kernel_rfl)) (by decide) (by decide) (fun K hK => ?_) (fun K hK => ?_)
                                  · skip
                                    refine Kd.R_append_rows_step Kd.string (w0 := w) w.heap.size (by rfl) (.tmp 42) (.tmp 45) 30 9 (.string ⟨#[]⟩) 16 rfl Try.underlying30 info9 rfl (by decide) (by omega) v127 y126 y129 _ _ _ (fun k_ => some k_ ≠ (.slice Ao28 t121.length co28 : Value).ownBlock) (fun _ => False) rfl rfl ?aO ?aR (fun _ _ h => h) (fun _ h => h.elim) ?aF ?aB ?aS ?aL ?_
                                    (case aR => repeat (first | exact (by repeat (first | (with_reducible exact HR132.out) | (with_reducible refine Kd.C_alloc ?_ _) | (with_reducible refine Kd.C_drewN ?_ _) | (with_reducible refine Kd.C_drew ?_) | exact HR132.out)) | (with_reducible refine Kd.C_alloc ?_ _) | (with_reducible refine Kd.C_drewN ?_ _) | (with_reducible refine Kd.C_drew ?_)))
                                    (case aB => exact (by repeat (first | (with_reducible first | exact HB.out | apply below_alloc | apply pw_below_drewN | apply below_drew1) | exact HB.out)))
                                    (case aF => exact (fun k_ hk => Kd.fresh' (Kd.R_lt (by (with_reducible repeat (first | apply Kd.R_alloc | apply Kd.R_drewN | apply Kd.R_drew)); exact HO_7.out)) k_ hk))
                                    (case aO => exact (by (with_reducible repeat (first | apply Kd.R_alloc | apply Kd.R_drewN | apply Kd.R_drew)); exact Kd.R_mono HO128.out (fun _ hk => hk.2)))
                                    (case aS => exact (below_size (by repeat (first | (with_reducible first | exact HB.out | apply below_alloc | apply pw_below_drewN | apply below_drew1) | exact HB.out))))
                                    (case aL => have := LMc18.out; omega)
                                    intro v134 w34 ho hb hg hat
                                    rw [← Ny133.out] at ho
                                    have n0_ := Aside0.mk (Kd.R_after (ok := (fun _ => True)) (by (with_reducible repeat (first | apply Kd.R_alloc | apply Kd.R_drewN | apply Kd.R_drew)); exact HO_7.out) hg hat)
                                    have n1_ := Aside0.mk (hb)
                                    have n2_ := Aside0.mk ((show Kd.C Kd.string w34 Ao28 y129.length y129 from by rw [Ny129.out]; exact Kd.C_take (m := ((ji15) : Int).toNat) ((Kd.R_reads' (Kd.R_after (ok := (fun _ => True)) (by (with_reducible repeat (first | apply Kd.R_alloc | apply Kd.R_drewN | apply Kd.R_drew)); exact HO_7.out) hg hat)).2.2) KL30.out))
                                    have n3_ := Aside0.mk ((show Kd.C Kd.string w34 A31 y142.length y142 from by rw [Ny142.out, KA31.out]; exact Kd.C_drop (m := ((ji15) : Int).toNat) (c := co28) ((Kd.R_reads' (Kd.R_after (ok := (fun _ => True)) (by (with_reducible repeat (first | apply Kd.R_alloc | apply Kd.R_drewN | apply Kd.R_drew)); exact HO_7.out) hg hat)).2.2) KL31.out ((Kd.R_reads' (Kd.R_after (ok := (fun _ => True)) (by (with_reducible repeat (first | apply Kd.R_alloc | apply Kd.R_drewN | apply Kd.R_drew)); exact HO_7.out) hg hat)).2.1)))
                                    have n4_ := Aside0.mk (ho)
                                    clear HO_7
                                    clear HB
                                    clear HR132
                                    clear HR145
                                    clear HO128
                                    have HO_7 := n0_
                                    have HB := n1_
                                    have HR132 := n2_
                                    have HR145 := n3_
                                    have HO135 := n4_
                                    clear n0_ n1_ n2_ n3_ n4_
                                    clear ho hb hg hat
                                    refine hK.out _ _ trivial (fun hHeld => ?_)
                                    clear hK K
                                    refine norm_ (a' := ?_) ?_ ?_
                                    rotate_left
                                    · show Act.put _ (some 46) _ = _
                                      simp only [Act.put, List.setIfInBounds_toArray, List.set_cons_zero, List.set_cons_succ, i64_w, i32_w]
                                      rfl
                                    refine one_ (i := 6) (N := some 48) #[true, true, true, true, true, true, true, false, true, true, true, false, false] rfl rfl (one_of HT_.out (by kernel_rfl)) (by decide) (fun K hK => ?_)
                                    refine Kd.R_lit_step Kd.string _ 9 ?hg (N := 48) ?hd (xs := ([a1] : List ByteArray)) (inner := [.string a1]) (ok := fun _ => True) (okp := fun _ => True) ?hr ?hp (fun _ hk => hk) trivial (Below.refl _ _) (Nat.le_refl _) (by simp) ?_; (case hd => rfl); (case hg => rfl); (case hr => first | (go_simp; done) | (go_simp; rfl)); (case hp => exact (Reps.one (show Kd.M Kd.string _ _ _ a1 [.string a1] from rfl) (Reps.none _ _)))
                                    intro v137 w35 ho36 hb hg_ hnew_
                                    clear hg_ hnew_
                                    (first | rw [← Ny136.out] at ho36 | (simp only [Int.reduceToNat] at ho36; rw [← Ny136.out] at ho36))
                                    have n0_ := Aside0.mk (Kd.R_elder' (by (with_reducible repeat (first | apply Kd.R_alloc | apply Kd.R_drewN | apply Kd.R_drew)); exact HO_7.out) (Kd.R_base ho36) hb)
                                    have n1_ := Aside0.mk (Kd.R_elder' (by (with_reducible repeat (first | apply Kd.R_alloc | apply Kd.R_drewN | apply Kd.R_drew)); exact HO135.out) (Kd.R_base ho36) hb)
                                    have n2_ := Aside0.mk (Kd.R_lower (Kd.R_new' (Kd.R_new' ho36 (Kd.R_lt (by (with_reducible repeat (first | apply Kd.R_alloc | apply Kd.R_drewN | apply Kd.R_drew)); exact HO_7.out))) (Kd.R_lt (by (with_reducible repeat (first | apply Kd.R_alloc | apply Kd.R_drewN | apply Kd.R_drew)); exact HO135.out))) (below_size (by repeat (first | (with_reducible first | exact HB.out | apply below_alloc | apply pw_below_drewN | apply below_drew1) | exact HB.out))))
                                    have n3_ := Aside0.mk (Kd.C_below (by repeat (first | (with_reducible exact HR132.out) | (with_reducible refine Kd.C_alloc ?_ _) | (with_reducible refine Kd.C_drewN ?_ _) | (with_reducible refine Kd.C_drew ?_) | exact HR132.out)) hb)
                                    have n4_ := Aside0.mk (Kd.C_below (by repeat (first | (with_reducible exact HR145.out) | (with_reducible refine Kd.C_alloc ?_ _) | (with_reducible refine Kd.C_drewN ?_ _) | (with_reducible refine Kd.C_drew ?_) | exact HR145.out)) hb)
                                    have n5_ := Aside0.mk (below_step (by repeat (first | (with_reducible first | exact HB.out | apply below_alloc | apply pw_below_drewN | apply below_drew1) | exact HB.out)) hb)
                                    clear HO_7
                                    clear HO135
                                    clear HR132
                                    clear HR145
                                    clear HB
                                    have HO_7 := n0_
                                    have HO135 := n1_
                                    have HO138 := n2_
                                    have HR132 := n3_
                                    have HR145 := n4_
                                    have HB := n5_
                                    clear n0_ n1_ n2_ n3_ n4_ n5_
                                    clear hb ho36
                                    refine hK.out _ _ trivial (fun hHeld => ?_)
                                    clear hK K
                                    refine norm_ (a' := ?_) ?_ ?_
                                    rotate_left
                                    · show Act.put _ (some 48) _ = _
                                      simp only [Act.put, List.setIfInBounds_toArray, List.set_cons_zero, List.set_cons_succ, i64_w, i32_w]
                                      rfl
                                    exact norm_ (by simp only [putAll, Act.put, List.setIfInBounds_toArray, List.set_cons_zero, List.set_cons_succ]) (hCont (v127, v134, v137) _ ⟨(by (with_reducible repeat (first | apply Kd.R_alloc | apply Kd.R_drewN | apply Kd.R_drew)); exact Kd.R_mono HO135.out (fun _ hk => ⟨hk.2, hk.1⟩)), (by (with_reducible repeat (first | apply Kd.R_alloc | apply Kd.R_drewN | apply Kd.R_drew)); exact Kd.R_mono HO138.out (fun _ hk => ⟨hk.2, hk.1.2⟩)), (by (with_reducible repeat (first | apply Kd.R_alloc | apply Kd.R_drewN | apply Kd.R_drew)); exact Kd.R_mono HO_7.out (fun _ hk => ⟨hk.1.2, hk.2⟩)), (by repeat (first | (with_reducible first | exact HB.out | apply below_alloc | apply pw_below_drewN | apply below_drew1) | exact HB.out))⟩)
                                  · skip
                                    refine Kd.R_lit_step Kd.string _ 9 ?hg (N := 48) ?hd (xs := ([a1] : List ByteArray)) (inner := [.string a1]) (ok := fun _ => True) (okp := fun _ => True) ?hr ?hp (fun _ hk => hk) trivial (Below.refl _ _) (Nat.le_refl _) (by simp) ?_; (case hd => rfl); (case hg => rfl); (case hr => first | (go_simp; done) | (go_simp; rfl)); (case hp => exact (Reps.one (show Kd.M Kd.string _ _ _ a1 [.string a1] from rfl) (Reps.none _ _)))
                                    intro v137 w34 ho35 hb hg_ hnew_
                                    clear hg_ hnew_
                                    (first | rw [← Ny136.out] at ho35 | (simp only [Int.reduceToNat] at ho35; rw [← Ny136.out] at ho35))
                                    have n0_ := Aside0.mk (Kd.R_elder' (by (with_reducible repeat (first | apply Kd.R_alloc | apply Kd.R_drewN | apply Kd.R_drew)); exact HO_7.out) (Kd.R_base ho35) hb)
                                    have n1_ := Aside0.mk (Kd.R_elder' (by (with_reducible repeat (first | apply Kd.R_alloc | apply Kd.R_drewN | apply Kd.R_drew)); exact HO128.out) (Kd.R_base ho35) hb)
                                    have n2_ := Aside0.mk (Kd.R_lower (Kd.R_new' (Kd.R_new' ho35 (Kd.R_lt (by (with_reducible repeat (first | apply Kd.R_alloc | apply Kd.R_drewN | apply Kd.R_drew)); exact HO_7.out))) (Kd.R_lt (by (with_reducible repeat (first | apply Kd.R_alloc | apply Kd.R_drewN | apply Kd.R_drew)); exact HO128.out))) (below_size (by repeat (first | (with_reducible first | exact HB.out | apply below_alloc | apply pw_below_drewN | apply below_drew1) | exact HB.out))))
                                    have n3_ := Aside0.mk (Kd.C_below (by repeat (first | (with_reducible exact HR132.out) | (with_reducible refine Kd.C_alloc ?_ _) | (with_reducible refine Kd.C_drewN ?_ _) | (with_reducible refine Kd.C_drew ?_) | exact HR132.out)) hb)
                                    have n4_ := Aside0.mk (Kd.C_below (by repeat (first | (with_reducible exact HR145.out) | (with_reducible refine Kd.C_alloc ?_ _) | (with_reducible refine Kd.C_drewN ?_ _) | (with_reducible refine Kd.C_drew ?_) | exact HR145.out)) hb)
                                    have n5_ := Aside0.mk (below_step (by repeat (first | (with_reducible first | exact HB.out | apply below_alloc | apply pw_below_drewN | apply below_drew1) | exact HB.out)) hb)
                                    clear HO_7
                                    clear HO128
                                    clear HR132
                                    clear HR145
                                    clear HB
                                    have HO_7 := n0_
                                    have HO128 := n1_
                                    have HO138 := n2_
                                    have HR132 := n3_
                                    have HR145 := n4_
                                    have HB := n5_
                                    clear n0_ n1_ n2_ n3_ n4_ n5_
                                    clear hb ho35
                                    refine hK.out _ _ trivial (fun hHeld => ?_)
                                    clear hK K
                                    refine norm_ (a' := ?_) ?_ ?_
                                    rotate_left
                                    · show Act.put _ (some 48) _ = _
                                      simp only [Act.put, List.setIfInBounds_toArray, List.set_cons_zero, List.set_cons_succ, i64_w, i32_w]
                                      rfl
                                    refine one_ (i := 4) (N := some 46) #[true, true, true, true, true, true, true, false, true, true, true, false, false] rfl rfl (one_of HT_.out (by kernel_rfl)) (by decide) (fun K hK => ?_)
                                    refine Kd.R_append_rows_step Kd.string (w0 := w) w.heap.size (by rfl) (.tmp 42) (.tmp 45) 30 9 (.string ⟨#[]⟩) 16 rfl Try.underlying30 info9 rfl (by decide) (by omega) v127 y126 y129 _ _ _ (fun k_ => some k_ ≠ (.slice Ao28 t121.length co28 : Value).ownBlock ∧ some k_ ≠ (v137 : Value).ownBlock) (fun _ => False) rfl rfl ?aO ?aR (fun _ _ h => h) (fun _ h => h.elim) ?aF ?aB ?aS ?aL ?_
                                    (case aR => repeat (first | exact (by repeat (first | (with_reducible exact HR132.out) | (with_reducible refine Kd.C_alloc ?_ _) | (with_reducible refine Kd.C_drewN ?_ _) | (with_reducible refine Kd.C_drew ?_) | exact HR132.out)) | (with_reducible refine Kd.C_alloc ?_ _) | (with_reducible refine Kd.C_drewN ?_ _) | (with_reducible refine Kd.C_drew ?_)))
                                    (case aB => exact (by repeat (first | (with_reducible first | exact HB.out | apply below_alloc | apply pw_below_drewN | apply below_drew1) | exact HB.out)))
                                    (case aF => exact (fun k_ hk => ⟨Kd.fresh' (Kd.R_lt (by (with_reducible repeat (first | apply Kd.R_alloc | apply Kd.R_drewN | apply Kd.R_drew)); exact HO_7.out)) k_ hk, Kd.fresh' (Kd.R_lt (by (with_reducible repeat (first | apply Kd.R_alloc | apply Kd.R_drewN | apply Kd.R_drew)); exact HO138.out)) k_ hk⟩))
                                    (case aO => exact (by (with_reducible repeat (first | apply Kd.R_alloc | apply Kd.R_drewN | apply Kd.R_drew)); exact Kd.R_mono HO128.out (fun _ hk => ⟨hk.1.2, hk.2⟩)))
                                    (case aS => exact (below_size (by repeat (first | (with_reducible first | exact HB.out | apply below_alloc | apply pw_below_drewN | apply below_drew1) | exact HB.out))))
                                    (case aL => have := LMc18.out; omega)
                                    intro v134 w36 ho hb hg hat
                                    rw [← Ny133.out] at ho
                                    have n0_ := Aside0.mk (Kd.R_after (ok := (fun k_ => some k_ ≠ (v137 : Value).ownBlock)) (by (with_reducible repeat (first | apply Kd.R_alloc | apply Kd.R_drewN | apply Kd.R_drew)); exact Kd.R_mono HO_7.out (fun _ hk => ⟨hk.2, hk.1.2⟩)) hg hat)
                                    have n1_ := Aside0.mk (Kd.R_after (ok := (fun k_ => some k_ ≠ (.slice Ao28 t121.length co28 : Value).ownBlock)) (by (with_reducible repeat (first | apply Kd.R_alloc | apply Kd.R_drewN | apply Kd.R_drew)); exact Kd.R_mono HO138.out (fun _ hk => ⟨hk.1.2, hk.2⟩)) hg hat)
                                    have n2_ := Aside0.mk (hb)
                                    have n3_ := Aside0.mk ((show Kd.C Kd.string w36 Ao28 y129.length y129 from by rw [Ny129.out]; exact Kd.C_take (m := ((ji15) : Int).toNat) ((Kd.R_reads' (Kd.R_after (ok := (fun k_ => some k_ ≠ (v137 : Value).ownBlock)) (by (with_reducible repeat (first | apply Kd.R_alloc | apply Kd.R_drewN | apply Kd.R_drew)); exact Kd.R_mono HO_7.out (fun _ hk => ⟨hk.2, hk.1.2⟩)) hg hat)).2.2) KL30.out))
                                    have n4_ := Aside0.mk ((show Kd.C Kd.string w36 A31 y142.length y142 from by rw [Ny142.out, KA31.out]; exact Kd.C_drop (m := ((ji15) : Int).toNat) (c := co28) ((Kd.R_reads' (Kd.R_after (ok := (fun k_ => some k_ ≠ (v137 : Value).ownBlock)) (by (with_reducible repeat (first | apply Kd.R_alloc | apply Kd.R_drewN | apply Kd.R_drew)); exact Kd.R_mono HO_7.out (fun _ hk => ⟨hk.2, hk.1.2⟩)) hg hat)).2.2) KL31.out ((Kd.R_reads' (Kd.R_after (ok := (fun k_ => some k_ ≠ (v137 : Value).ownBlock)) (by (with_reducible repeat (first | apply Kd.R_alloc | apply Kd.R_drewN | apply Kd.R_drew)); exact Kd.R_mono HO_7.out (fun _ hk => ⟨hk.2, hk.1.2⟩)) hg hat)).2.1)))
                                    have n5_ := Aside0.mk (ho)
                                    clear HO_7
                                    clear HO138
                                    clear HB
                                    clear HR132
                                    clear HR145
                                    clear HO128
                                    have HO_7 := n0_
                                    have HO138 := n1_
                                    have HB := n2_
                                    have HR132 := n3_
                                    have HR145 := n4_
                                    have HO135 := n5_
                                    clear n0_ n1_ n2_ n3_ n4_ n5_
                                    clear ho hb hg hat
                                    refine hK.out _ _ trivial (fun hHeld => ?_)
                                    clear hK K
                                    refine norm_ (a' := ?_) ?_ ?_
                                    rotate_left
                                    · show Act.put _ (some 46) _ = _
                                      simp only [Act.put, List.setIfInBounds_toArray, List.set_cons_zero, List.set_cons_succ, i64_w, i32_w]
                                      rfl
                                    exact norm_ (by simp only [putAll, Act.put, List.setIfInBounds_toArray, List.set_cons_zero, List.set_cons_succ]) (hCont (v127, v134, v137) _ ⟨(by (with_reducible repeat (first | apply Kd.R_alloc | apply Kd.R_drewN | apply Kd.R_drew)); exact Kd.R_mono HO135.out (fun _ hk => ⟨hk.2, hk.1⟩)), (by (with_reducible repeat (first | apply Kd.R_alloc | apply Kd.R_drewN | apply Kd.R_drew)); exact Kd.R_mono HO138.out (fun _ hk => ⟨hk.2, hk.1⟩)), (by (with_reducible repeat (first | apply Kd.R_alloc | apply Kd.R_drewN | apply Kd.R_drew)); exact Kd.R_mono HO_7.out (fun _ hk => ⟨hk.2, hk.1⟩)), (by repeat (first | (with_reducible first | exact HB.out | apply below_alloc | apply pw_below_drewN | apply below_drew1) | exact HB.out))⟩)
                                · skip
                                  refine Kd.R_lit_step Kd.string _ 9 ?hg (N := 48) ?hd (xs := ([a1] : List ByteArray)) (inner := [.string a1]) (ok := fun _ => True) (okp := fun _ => True) ?hr ?hp (fun _ hk => hk) trivial (Below.refl _ _) (Nat.le_refl _) (by simp) ?_; (case hd => rfl); (case hg => rfl); (case hr => first | (go_simp; done) | (go_simp; rfl)); (case hp => exact (Reps.one (show Kd.M Kd.string _ _ _ a1 [.string a1] from rfl) (Reps.none _ _)))
                                  intro v137 w32 ho33 hb hg_ hnew_
                                  clear hg_ hnew_
                                  (first | rw [← Ny136.out] at ho33 | (simp only [Int.reduceToNat] at ho33; rw [← Ny136.out] at ho33))
                                  have n0_ := Aside0.mk (Kd.R_elder' (by (with_reducible repeat (first | apply Kd.R_alloc | apply Kd.R_drewN | apply Kd.R_drew)); exact HO_7.out) (Kd.R_base ho33) hb)
                                  have n1_ := Aside0.mk (Kd.R_lower (Kd.R_new' ho33 (Kd.R_lt (by (with_reducible repeat (first | apply Kd.R_alloc | apply Kd.R_drewN | apply Kd.R_drew)); exact HO_7.out))) (below_size (by repeat (first | (with_reducible first | exact HB.out | apply below_alloc | apply pw_below_drewN | apply below_drew1) | exact HB.out))))
                                  have n2_ := Aside0.mk (Kd.C_below (by repeat (first | (with_reducible exact HR132.out) | (with_reducible refine Kd.C_alloc ?_ _) | (with_reducible refine Kd.C_drewN ?_ _) | (with_reducible refine Kd.C_drew ?_) | exact HR132.out)) hb)
                                  have n3_ := Aside0.mk (Kd.C_below (by repeat (first | (with_reducible exact HR145.out) | (with_reducible refine Kd.C_alloc ?_ _) | (with_reducible refine Kd.C_drewN ?_ _) | (with_reducible refine Kd.C_drew ?_) | exact HR145.out)) hb)
                                  have n4_ := Aside0.mk (below_step (by repeat (first | (with_reducible first | exact HB.out | apply below_alloc | apply pw_below_drewN | apply below_drew1) | exact HB.out)) hb)
                                  clear HO_7
                                  clear HR132
                                  clear HR145
                                  clear HB
                                  have HO_7 := n0_
                                  have HO138 := n1_
                                  have HR132 := n2_
                                  have HR145 := n3_
                                  have HB := n4_
                                  clear n0_ n1_ n2_ n3_ n4_
                                  clear hb ho33
                                  refine hK.out _ _ trivial (fun hHeld => ?_)
                                  clear hK K
                                  refine norm_ (a' := ?_) ?_ ?_
                                  rotate_left
                                  · show Act.put _ (some 48) _ = _
                                    simp only [Act.put, List.setIfInBounds_toArray, List.set_cons_zero, List.set_cons_succ, i64_w, i32_w]
                                    rfl
                                  refine one_ (i := 0) (N := some 42) #[true, true, true, true, false, true, true, false, true, true, true, false, false] rfl rfl (one_of HT_.out (by kernel_rfl)) (by decide) (fun K hK => ?_)
                                  refine Kd.R_lit_step Kd.string _ 9 ?hg (N := 42) ?hd (xs := ([] : List ByteArray)) (inner := []) (ok := fun _ => True) (okp := fun _ => True) ?hr ?hp (fun _ hk => hk) trivial (Below.refl _ _) (Nat.le_refl _) (by simp) ?_; (case hd => rfl); (case hg => rfl); (case hr => first | (go_simp; done) | (go_simp; rfl)); (case hp => exact (Reps.none _ _))
                                  intro v127 w34 ho35 hb hg_ hnew_
                                  clear hg_ hnew_
                                  (first | rw [← Ny126.out] at ho35 | (simp only [Int.reduceToNat] at ho35; rw [← Ny126.out] at ho35))
                                  have n0_ := Aside0.mk (Kd.R_elder' (by (with_reducible repeat (first | apply Kd.R_alloc | apply Kd.R_drewN | apply Kd.R_drew)); exact HO_7.out) (Kd.R_base ho35) hb)
                                  have n1_ := Aside0.mk (Kd.R_elder' (by (with_reducible repeat (first | apply Kd.R_alloc | apply Kd.R_drewN | apply Kd.R_drew)); exact HO138.out) (Kd.R_base ho35) hb)
                                  have n2_ := Aside0.mk (Kd.R_lower (Kd.R_new' (Kd.R_new' ho35 (Kd.R_lt (by (with_reducible repeat (first | apply Kd.R_alloc | apply Kd.R_drewN | apply Kd.R_drew)); exact HO_7.out))) (Kd.R_lt (by (with_reducible repeat (first | apply Kd.R_alloc | apply Kd.R_drewN | apply Kd.R_drew)); exact HO138.out))) (below_size (by repeat (first | (with_reducible first | exact HB.out | apply below_alloc | apply pw_below_drewN | apply below_drew1) | exact HB.out))))
                                  have n3_ := Aside0.mk (Kd.C_below (by repeat (first | (with_reducible exact HR132.out) | (with_reducible refine Kd.C_alloc ?_ _) | (with_reducible refine Kd.C_drewN ?_ _) | (with_reducible refine Kd.C_drew ?_) | exact HR132.out)) hb)
                                  have n4_ := Aside0.mk (Kd.C_below (by repeat (first | (with_reducible exact HR145.out) | (with_reducible refine Kd.C_alloc ?_ _) | (with_reducible refine Kd.C_drewN ?_ _) | (with_reducible refine Kd.C_drew ?_) | exact HR145.out)) hb)
                                  have n5_ := Aside0.mk (below_step (by repeat (first | (with_reducible first | exact HB.out | apply below_alloc | apply pw_below_drewN | apply below_drew1) | exact HB.out)) hb)
                                  clear HO_7
                                  clear HO138
                                  clear HR132
                                  clear HR145
                                  clear HB
                                  have HO_7 := n0_
                                  have HO138 := n1_
                                  have HO128 := n2_
                                  have HR132 := n3_
                                  have HR145 := n4_
                                  have HB := n5_
                                  clear n0_ n1_ n2_ n3_ n4_ n5_
                                  clear hb ho35
                                  refine hK.out _ _ trivial (fun hHeld => ?_)
                                  clear hK K
                                  refine norm_ (a' := ?_) ?_ ?_
                                  rotate_left
                                  · show Act.put _ (some 42) _ = _
                                    simp only [Act.put, List.setIfInBounds_toArray, List.set_cons_zero, List.set_cons_succ, i64_w, i32_w]
                                    rfl
                                  refine one_ (i := 4) (N := some 46) #[true, true, true, true, true, true, true, false, true, true, true, false, false] rfl rfl (one_of HT_.out (by kernel_rfl)) (by decide) (fun K hK => ?_)
                                  refine Kd.R_append_rows_step Kd.string (w0 := w) w.heap.size (by rfl) (.tmp 42) (.tmp 45) 30 9 (.string ⟨#[]⟩) 16 rfl Try.underlying30 info9 rfl (by decide) (by omega) v127 y126 y129 _ _ _ (fun k_ => some k_ ≠ (.slice Ao28 t121.length co28 : Value).ownBlock ∧ some k_ ≠ (v137 : Value).ownBlock) (fun _ => False) rfl rfl ?aO ?aR (fun _ _ h => h) (fun _ h => h.elim) ?aF ?aB ?aS ?aL ?_
                                  (case aR => repeat (first | exact (by repeat (first | (with_reducible exact HR132.out) | (with_reducible refine Kd.C_alloc ?_ _) | (with_reducible refine Kd.C_drewN ?_ _) | (with_reducible refine Kd.C_drew ?_) | exact HR132.out)) | (with_reducible refine Kd.C_alloc ?_ _) | (with_reducible refine Kd.C_drewN ?_ _) | (with_reducible refine Kd.C_drew ?_)))
                                  (case aB => exact (by repeat (first | (with_reducible first | exact HB.out | apply below_alloc | apply pw_below_drewN | apply below_drew1) | exact HB.out)))
                                  (case aF => exact (fun k_ hk => ⟨Kd.fresh' (Kd.R_lt (by (with_reducible repeat (first | apply Kd.R_alloc | apply Kd.R_drewN | apply Kd.R_drew)); exact HO_7.out)) k_ hk, Kd.fresh' (Kd.R_lt (by (with_reducible repeat (first | apply Kd.R_alloc | apply Kd.R_drewN | apply Kd.R_drew)); exact HO138.out)) k_ hk⟩))
                                  (case aO => exact (by (with_reducible repeat (first | apply Kd.R_alloc | apply Kd.R_drewN | apply Kd.R_drew)); exact Kd.R_mono HO128.out (fun _ hk => ⟨hk.1.2, hk.2⟩)))
                                  (case aS => exact (below_size (by repeat (first | (with_reducible first | exact HB.out | apply below_alloc | apply pw_below_drewN | apply below_drew1) | exact HB.out))))
                                  (case aL => have := LMc18.out; omega)
                                  intro v134 w36 ho hb hg hat
                                  rw [← Ny133.out] at ho
                                  have n0_ := Aside0.mk (Kd.R_after (ok := (fun k_ => some k_ ≠ (v137 : Value).ownBlock)) (by (with_reducible repeat (first | apply Kd.R_alloc | apply Kd.R_drewN | apply Kd.R_drew)); exact Kd.R_mono HO_7.out (fun _ hk => ⟨hk.1.2, hk.2⟩)) hg hat)
                                  have n1_ := Aside0.mk (Kd.R_after (ok := (fun k_ => some k_ ≠ (.slice Ao28 t121.length co28 : Value).ownBlock)) (by (with_reducible repeat (first | apply Kd.R_alloc | apply Kd.R_drewN | apply Kd.R_drew)); exact Kd.R_mono HO138.out (fun _ hk => ⟨hk.1.2, hk.2⟩)) hg hat)
                                  have n2_ := Aside0.mk (hb)
                                  have n3_ := Aside0.mk ((show Kd.C Kd.string w36 Ao28 y129.length y129 from by rw [Ny129.out]; exact Kd.C_take (m := ((ji15) : Int).toNat) ((Kd.R_reads' (Kd.R_after (ok := (fun k_ => some k_ ≠ (v137 : Value).ownBlock)) (by (with_reducible repeat (first | apply Kd.R_alloc | apply Kd.R_drewN | apply Kd.R_drew)); exact Kd.R_mono HO_7.out (fun _ hk => ⟨hk.1.2, hk.2⟩)) hg hat)).2.2) KL30.out))
                                  have n4_ := Aside0.mk ((show Kd.C Kd.string w36 A31 y142.length y142 from by rw [Ny142.out, KA31.out]; exact Kd.C_drop (m := ((ji15) : Int).toNat) (c := co28) ((Kd.R_reads' (Kd.R_after (ok := (fun k_ => some k_ ≠ (v137 : Value).ownBlock)) (by (with_reducible repeat (first | apply Kd.R_alloc | apply Kd.R_drewN | apply Kd.R_drew)); exact Kd.R_mono HO_7.out (fun _ hk => ⟨hk.1.2, hk.2⟩)) hg hat)).2.2) KL31.out ((Kd.R_reads' (Kd.R_after (ok := (fun k_ => some k_ ≠ (v137 : Value).ownBlock)) (by (with_reducible repeat (first | apply Kd.R_alloc | apply Kd.R_drewN | apply Kd.R_drew)); exact Kd.R_mono HO_7.out (fun _ hk => ⟨hk.1.2, hk.2⟩)) hg hat)).2.1)))
                                  have n5_ := Aside0.mk (ho)
                                  clear HO_7
                                  clear HO138
                                  clear HB
                                  clear HR132
                                  clear HR145
                                  clear HO128
                                  have HO_7 := n0_
                                  have HO138 := n1_
                                  have HB := n2_
                                  have HR132 := n3_
                                  have HR145 := n4_
                                  have HO135 := n5_
                                  clear n0_ n1_ n2_ n3_ n4_ n5_
                                  clear ho hb hg hat
                                  refine hK.out _ _ trivial (fun hHeld => ?_)
                                  clear hK K
                                  refine norm_ (a' := ?_) ?_ ?_
                                  rotate_left
                                  · show Act.put _ (some 46) _ = _
                                    simp only [Act.put, List.setIfInBounds_toArray, List.set_cons_zero, List.set_cons_succ, i64_w, i32_w]
                                    rfl
                                  exact norm_ (by simp only [putAll, Act.put, List.setIfInBounds_toArray, List.set_cons_zero, List.set_cons_succ]) (hCont (v127, v134, v137) _ ⟨(by (with_reducible repeat (first | apply Kd.R_alloc | apply Kd.R_drewN | apply Kd.R_drew)); exact Kd.R_mono HO135.out (fun _ hk => ⟨hk.2, hk.1⟩)), (by (with_reducible repeat (first | apply Kd.R_alloc | apply Kd.R_drewN | apply Kd.R_drew)); exact Kd.R_mono HO138.out (fun _ hk => ⟨hk.2, hk.1⟩)), (by (with_reducible repeat (first | apply Kd.R_alloc | apply Kd.R_drewN | apply Kd.R_drew)); exact Kd.R_mono HO_7.out (fun _ hk => ⟨hk.2, hk.1⟩)), (by repeat (first | (with_reducible first | exact HB.out | apply below_alloc | apply pw_below_drewN | apply below_drew1) | exact HB.out))⟩)
                              rintro ⟨v127, v134, v137⟩ w37 ⟨h0_, h1_, h2_, h3_⟩
                              have n0_ : Aside0 (Kd.R Kd.string 9 w37 w.heap.size (fun k_ => some k_ ≠ (v137 : Value).ownBlock ∧ some k_ ≠ (.slice Ao28 t121.length co28 : Value).ownBlock) v134 y133) := ⟨h0_⟩
                              have n1_ : Aside0 (Kd.R Kd.string 9 w37 w.heap.size (fun k_ => some k_ ≠ (v134 : Value).ownBlock ∧ some k_ ≠ (.slice Ao28 t121.length co28 : Value).ownBlock) v137 y136) := ⟨h1_⟩
                              have n2_ : Aside0 (Kd.R Kd.string 9 w37 w.heap.size (fun k_ => some k_ ≠ (v134 : Value).ownBlock ∧ some k_ ≠ (v137 : Value).ownBlock) (.slice Ao28 t121.length co28) t121) := ⟨h2_⟩
                              have n3_ : Aside0 (Below w.heap.size w w37) := ⟨h3_⟩
                              clear HO_7
                              clear HB
                              clear h0_ h1_ h2_ h3_
                              have HO135 := n0_
                              have HO138 := n1_
                              have HO_7 := n2_
                              have HB := n3_
                              clear n0_ n1_ n2_ n3_
                              have hHeld := trivial
                              have HR132 := Aside0.mk ((show Kd.C Kd.string w37 Ao28 y129.length y129 from by rw [Ny129.out]; exact Kd.C_take (m := ((ji15) : Int).toNat) ((Kd.R_reads' (HO_7.out)).2.2) KL30.out))
                              have HR145 := Aside0.mk ((show Kd.C Kd.string w37 A31 y142.length y142 from by rw [Ny142.out, KA31.out]; exact Kd.C_drop (m := ((ji15) : Int).toNat) (c := co28) ((Kd.R_reads' (HO_7.out)).2.2) KL31.out ((Kd.R_reads' (HO_7.out)).2.1)))
                              obtain ⟨Ao39, co39, eo39⟩ := Kd.R_slice HO138.out
                              (first | subst eo39 | (injection eo39 with f1_ f2_ f3_; have f4_ := f1_.symm; have f5_ := f3_.symm; clear f1_ f2_ f3_; subst f4_; subst f5_))
                              refine norm_ (a' := ?_) ?_ ?_
                              rotate_left
                              · simp only [putAll, Act.put, List.setIfInBounds_toArray, List.set_cons_zero, List.set_cons_succ]
                                rfl
                              refine one_ (i := 7) (N := some 49) #[true, true, true, true, true, true, true, true, true, true, true, false, false] rfl rfl (one_of HT_.out (by kernel_rfl)) (by decide) (fun K hK => ?_)
                              refine Kd.R_append_rows_step Kd.string (w0 := w) w.heap.size (by rfl) (.tmp 46) (.tmp 48) 30 9 (.string ⟨#[]⟩) 16 rfl Try.underlying30 info9 rfl (by decide) (by omega) v134 y133 y136 _ _ _ (fun k_ => some k_ ≠ (.slice Ao28 t121.length co28 : Value).ownBlock ∧ some k_ ≠ (.slice Ao39 y136.length co39 : Value).ownBlock) (fun _ => False) rfl rfl ?aO ?aR (fun _ _ h => h) (fun _ h => h.elim) ?aF ?aB ?aS ?aL ?_
                              (case aR => repeat (first | exact (Kd.R_reads' HO138.out).2.2 | (with_reducible refine Kd.C_alloc ?_ _) | (with_reducible refine Kd.C_drewN ?_ _) | (with_reducible refine Kd.C_drew ?_)))
                              (case aB => exact (by repeat (first | (with_reducible first | exact HB.out | apply below_alloc | apply pw_below_drewN | apply below_drew1) | exact HB.out)))
                              (case aF => exact (fun k_ hk => ⟨Kd.fresh' (Kd.R_lt (by (with_reducible repeat (first | apply Kd.R_alloc | apply Kd.R_drewN | apply Kd.R_drew)); exact HO_7.out)) k_ hk, Kd.fresh' (Kd.R_lt (by (with_reducible repeat (first | apply Kd.R_alloc | apply Kd.R_drewN | apply Kd.R_drew)); exact HO138.out)) k_ hk⟩))
                              (case aO => exact (by (with_reducible repeat (first | apply Kd.R_alloc | apply Kd.R_drewN | apply Kd.R_drew)); exact Kd.R_mono HO135.out (fun _ hk => ⟨hk.2, hk.1⟩)))
                              (case aS => exact (below_size (by repeat (first | (with_reducible first | exact HB.out | apply below_alloc | apply pw_below_drewN | apply below_drew1) | exact HB.out))))
                              (case aL => have := LMc19.out; omega)
                              intro v140 w38 ho hb hg hat
                              rw [← Ny139.out] at ho
                              have n0_ := Aside0.mk (Kd.R_after (ok := (fun k_ => some k_ ≠ (.slice Ao39 y136.length co39 : Value).ownBlock)) (by (with_reducible repeat (first | apply Kd.R_alloc | apply Kd.R_drewN | apply Kd.R_drew)); exact Kd.R_mono HO_7.out (fun _ hk => ⟨hk.2, hk.1⟩)) hg hat)
                              have n1_ := Aside0.mk (Kd.R_after (ok := (fun k_ => some k_ ≠ (.slice Ao28 t121.length co28 : Value).ownBlock)) (by (with_reducible repeat (first | apply Kd.R_alloc | apply Kd.R_drewN | apply Kd.R_drew)); exact Kd.R_mono HO138.out (fun _ hk => ⟨hk.2, hk.1⟩)) hg hat)
                              have n2_ := Aside0.mk (hb)
                              have n3_ := Aside0.mk ((show Kd.C Kd.string w38 Ao28 y129.length y129 from by rw [Ny129.out]; exact Kd.C_take (m := ((ji15) : Int).toNat) ((Kd.R_reads' (Kd.R_after (ok := (fun k_ => some k_ ≠ (.slice Ao39 y136.length co39 : Value).ownBlock)) (by (with_reducible repeat (first | apply Kd.R_alloc | apply Kd.R_drewN | apply Kd.R_drew)); exact Kd.R_mono HO_7.out (fun _ hk => ⟨hk.2, hk.1⟩)) hg hat)).2.2) KL30.out))
                              have n4_ := Aside0.mk ((show Kd.C Kd.string w38 A31 y142.length y142 from by rw [Ny142.out, KA31.out]; exact Kd.C_drop (m := ((ji15) : Int).toNat) (c := co28) ((Kd.R_reads' (Kd.R_after (ok := (fun k_ => some k_ ≠ (.slice Ao39 y136.length co39 : Value).ownBlock)) (by (with_reducible repeat (first | apply Kd.R_alloc | apply Kd.R_drewN | apply Kd.R_drew)); exact Kd.R_mono HO_7.out (fun _ hk => ⟨hk.2, hk.1⟩)) hg hat)).2.2) KL31.out ((Kd.R_reads' (Kd.R_after (ok := (fun k_ => some k_ ≠ (.slice Ao39 y136.length co39 : Value).ownBlock)) (by (with_reducible repeat (first | apply Kd.R_alloc | apply Kd.R_drewN | apply Kd.R_drew)); exact Kd.R_mono HO_7.out (fun _ hk => ⟨hk.2, hk.1⟩)) hg hat)).2.1)))
                              have n5_ := Aside0.mk (ho)
                              clear HO_7
                              clear HO138
                              clear HB
                              clear HR132
                              clear HR145
                              clear HO135
                              have HO_7 := n0_
                              have HO138 := n1_
                              have HB := n2_
                              have HR132 := n3_
                              have HR145 := n4_
                              have HO141 := n5_
                              clear n0_ n1_ n2_ n3_ n4_ n5_
                              clear ho hb hg hat
                              refine hK.out _ _ trivial (fun hHeld => ?_)
                              clear hK K
                              refine norm_ (a' := ?_) ?_ ?_
                              rotate_left
                              · show Act.put _ (some 49) _ = _
                                simp only [Act.put, List.setIfInBounds_toArray, List.set_cons_zero, List.set_cons_succ, i64_w, i32_w]
                                rfl
                              refine one_ (i := 11) (N := some 53) #[true, true, true, true, true, true, true, true, true, true, true, true, false] rfl rfl (one_of HT_.out (by kernel_rfl)) (by decide) (fun K hK => ?_)
                              refine Kd.R_append_rows_step Kd.string (w0 := w) w.heap.size (by rfl) (.tmp 49) (.tmp 52) 30 9 (.string ⟨#[]⟩) 16 rfl Try.underlying30 info9 rfl (by decide) (by omega) v140 y139 y142 _ _ _ (fun k_ => some k_ ≠ (.slice Ao28 t121.length co28 : Value).ownBlock ∧ some k_ ≠ (.slice Ao39 y136.length co39 : Value).ownBlock) (fun _ => False) rfl rfl ?aO ?aR (fun _ _ h => h) (fun _ h => h.elim) ?aF ?aB ?aS ?aL ?_
                              (case aR => repeat (first | exact (by repeat (first | (with_reducible exact HR145.out) | (with_reducible refine Kd.C_alloc ?_ _) | (with_reducible refine Kd.C_drewN ?_ _) | (with_reducible refine Kd.C_drew ?_) | exact HR145.out)) | (with_reducible refine Kd.C_alloc ?_ _) | (with_reducible refine Kd.C_drewN ?_ _) | (with_reducible refine Kd.C_drew ?_)))
                              (case aB => exact (by repeat (first | (with_reducible first | exact HB.out | apply below_alloc | apply pw_below_drewN | apply below_drew1) | exact HB.out)))
                              (case aF => exact (fun k_ hk => ⟨Kd.fresh' (Kd.R_lt (by (with_reducible repeat (first | apply Kd.R_alloc | apply Kd.R_drewN | apply Kd.R_drew)); exact HO_7.out)) k_ hk, Kd.fresh' (Kd.R_lt (by (with_reducible repeat (first | apply Kd.R_alloc | apply Kd.R_drewN | apply Kd.R_drew)); exact HO138.out)) k_ hk⟩))
                              (case aO => exact (by (with_reducible repeat (first | apply Kd.R_alloc | apply Kd.R_drewN | apply Kd.R_drew)); exact HO141.out))
                              (case aS => exact (below_size (by repeat (first | (with_reducible first | exact HB.out | apply below_alloc | apply pw_below_drewN | apply below_drew1) | exact HB.out))))
                              (case aL => have := LMc22.out; omega)
                              intro v147 w40 ho hb hg hat
                              rw [← Ny146.out] at ho
                              have n0_ := Aside0.mk (Kd.R_after (ok := (fun k_ => some k_ ≠ (.slice Ao39 y136.length co39 : Value).ownBlock)) (by (with_reducible repeat (first | apply Kd.R_alloc | apply Kd.R_drewN | apply Kd.R_drew)); exact HO_7.out) hg hat)
                              have n1_ := Aside0.mk (Kd.R_after (ok := (fun k_ => some k_ ≠ (.slice Ao28 t121.length co28 : Value).ownBlock)) (by (with_reducible repeat (first | apply Kd.R_alloc | apply Kd.R_drewN | apply Kd.R_drew)); exact HO138.out) hg hat)
                              have n2_ := Aside0.mk (hb)
                              have n3_ := Aside0.mk ((show Kd.C Kd.string w40 Ao28 y129.length y129 from by rw [Ny129.out]; exact Kd.C_take (m := ((ji15) : Int).toNat) ((Kd.R_reads' (Kd.R_after (ok := (fun k_ => some k_ ≠ (.slice Ao39 y136.length co39 : Value).ownBlock)) (by (with_reducible repeat (first | apply Kd.R_alloc | apply Kd.R_drewN | apply Kd.R_drew)); exact HO_7.out) hg hat)).2.2) KL30.out))
                              have n4_ := Aside0.mk ((show Kd.C Kd.string w40 A31 y142.length y142 from by rw [Ny142.out, KA31.out]; exact Kd.C_drop (m := ((ji15) : Int).toNat) (c := co28) ((Kd.R_reads' (Kd.R_after (ok := (fun k_ => some k_ ≠ (.slice Ao39 y136.length co39 : Value).ownBlock)) (by (with_reducible repeat (first | apply Kd.R_alloc | apply Kd.R_drewN | apply Kd.R_drew)); exact HO_7.out) hg hat)).2.2) KL31.out ((Kd.R_reads' (Kd.R_after (ok := (fun k_ => some k_ ≠ (.slice Ao39 y136.length co39 : Value).ownBlock)) (by (with_reducible repeat (first | apply Kd.R_alloc | apply Kd.R_drewN | apply Kd.R_drew)); exact HO_7.out) hg hat)).2.1)))
                              have n5_ := Aside0.mk (ho)
                              clear HO_7
                              clear HO138
                              clear HB
                              clear HR132
                              clear HR145
                              clear HO141
                              have HO_7 := n0_
                              have HO138 := n1_
                              have HB := n2_
                              have HR132 := n3_
                              have HR145 := n4_
                              have HO148 := n5_
                              clear n0_ n1_ n2_ n3_ n4_ n5_
                              clear ho hb hg hat
                              refine hK.out _ _ trivial (fun hHeld => ?_)
                              clear hK K
                              refine norm_ (a' := ?_) ?_ ?_
                              rotate_left
                              · show Act.put _ (some 53) _ = _
                                simp only [Act.put, List.setIfInBounds_toArray, List.set_cons_zero, List.set_cons_succ, i64_w, i32_w]
                                rfl
                              refine pure_ (i := 12) (N := some 10) (v := ?_) (a' := ?_) #[true, true, true, true, true, true, true, true, true, true, true, true, true] rfl rfl (any_of HT_.out (by kernel_rfl)) (fun _ _ _ h => h) (Or.inl ⟨by rfl, ?_⟩) ?_ ?_
                              rotate_left
                              · intro w'
                                go_simp
                                with_reducible rfl
                              rotate_left
                              · simp only [Act.put, List.setIfInBounds_toArray, List.set_cons_zero, List.set_cons_succ, i64_w, i32_w]
                                rfl
                              refine done_ (done_of HT_.out (by kernel_rfl)) ?_
                              obtain ⟨Ao41, co41, eo41⟩ := Kd.R_slice HO148.out
                              subst eo41
                              try go_wp2_with (first | ((with_reducible refine gate_callee (f := 16) rfl ?_); refine goesL_ (some 55) rfl rfl Try.func16 (by kernel_rfl) rfl #[.slice Ao41 y146.length co41, .string (⟨#[]⟩ : ByteArray)] rfl (by (try simp only [List.map_toArray, List.map_cons, List.map_nil]); first | done | rfl | (simp only [List.length_drop, List.length_take]; rfl)) ?_; (with_reducible refine (spec_Joined.calls kj7 _ _ y146 (⟨#[]⟩ : ByteArray) t149 _ ?side1 ?side2 A23.out).mono ?_); (case side1 => repeat (first | exact (Kd.R_reads' HO148.out).2.2 | (with_reducible refine Kd.C_alloc ?_ _) | (with_reducible refine Kd.C_drewN ?_ _) | (with_reducible refine Kd.C_drew ?_))); (case side2 => exact (Kd.R_reads' HO148.out).2.1); rintro e w' ⟨rfl, ⟨nd, rfl⟩⟩; refine ⟨_, rfl, ?_⟩) | ((with_reducible refine gate_callee (f := 10) rfl ?_); refine goesL_ (some 61) rfl rfl Try.func10 (by kernel_rfl) rfl #[.string t149] rfl (by (try simp only [List.map_toArray, List.map_cons, List.map_nil]); first | done | rfl | (simp only [List.length_drop, List.length_take]; rfl)) ?_; (with_reducible refine (impl_SgParse.calls kj7 t149 t150 true _ A25.out).mono ?_); rintro e w42 ⟨rfl, hb⟩; refine ⟨_, rfl, ?_⟩; have n0_ := Aside0.mk (Kd.R_below (by (with_reducible repeat (first | apply Kd.R_alloc | apply Kd.R_drewN | apply Kd.R_drew)); exact HO_7.out) hb); have n1_ := Aside0.mk (Kd.R_below (by (with_reducible repeat (first | apply Kd.R_alloc | apply Kd.R_drewN | apply Kd.R_drew)); exact HO138.out) hb); have n2_ := Aside0.mk (Kd.R_below (by (with_reducible repeat (first | apply Kd.R_alloc | apply Kd.R_drewN | apply Kd.R_drew)); exact HO148.out) hb); have n3_ := Aside0.mk (Kd.C_below (by repeat (first | (with_reducible exact HR132.out) | (with_reducible refine Kd.C_alloc ?_ _) | (with_reducible refine Kd.C_drewN ?_ _) | (with_reducible refine Kd.C_drew ?_) | exact HR132.out)) hb); have n4_ := Aside0.mk (Kd.C_below (by repeat (first | (with_reducible exact HR145.out) | (with_reducible refine Kd.C_alloc ?_ _) | (with_reducible refine Kd.C_drewN ?_ _) | (with_reducible refine Kd.C_drew ?_) | exact HR145.out)) hb); have n5_ := Aside0.mk (below_step (by repeat (first | (with_reducible first | exact HB.out | apply below_alloc | apply pw_below_drewN | apply below_drew1) | exact HB.out)) hb); clear HO_7; clear HO138; clear HO148; clear HR132; clear HR145; clear HB; have HO_7 := n0_; have HO138 := n1_; have HO148 := n2_; have HR132 := n3_; have HR145 := n4_; have HB := n5_; clear n0_ n1_ n2_ n3_ n4_ n5_; (try clear hb); (try clear hb2); (try clear hk); (try clear hi)) | ((with_reducible refine gate_callee (f := 10) rfl ?_); refine goesL_ (some 65) rfl rfl Try.func10 (by kernel_rfl) rfl #[.string (⟨#[121]⟩ : ByteArray)] rfl (by (try simp only [List.map_toArray, List.map_cons, List.map_nil]); first | done | rfl | (simp only [List.length_drop, List.length_take]; rfl)) ?_; (with_reducible refine (impl_SgParse.calls kj7 (⟨#[121]⟩ : ByteArray) t152 t153 _ A26.out).mono ?_); rintro e w43 ⟨rfl, hb⟩; refine ⟨_, rfl, ?_⟩; have n0_ := Aside0.mk (Kd.R_below (by (with_reducible repeat (first | apply Kd.R_alloc | apply Kd.R_drewN | apply Kd.R_drew)); exact HO_7.out) hb); have n1_ := Aside0.mk (Kd.R_below (by (with_reducible repeat (first | apply Kd.R_alloc | apply Kd.R_drewN | apply Kd.R_drew)); exact HO138.out) hb); have n2_ := Aside0.mk (Kd.R_below (by (with_reducible repeat (first | apply Kd.R_alloc | apply Kd.R_drewN | apply Kd.R_drew)); exact HO148.out) hb); have n3_ := Aside0.mk (Kd.C_below (by repeat (first | (with_reducible exact HR132.out) | (with_reducible refine Kd.C_alloc ?_ _) | (with_reducible refine Kd.C_drewN ?_ _) | (with_reducible refine Kd.C_drew ?_) | exact HR132.out)) hb); have n4_ := Aside0.mk (Kd.C_below (by repeat (first | (with_reducible exact HR145.out) | (with_reducible refine Kd.C_alloc ?_ _) | (with_reducible refine Kd.C_drewN ?_ _) | (with_reducible refine Kd.C_drew ?_) | exact HR145.out)) hb); have n5_ := Aside0.mk (below_step (by repeat (first | (with_reducible first | exact HB.out | apply below_alloc | apply pw_below_drewN | apply below_drew1) | exact HB.out)) hb); clear HO_7; clear HO138; clear HO148; clear HR132; clear HR145; clear HB; have HO_7 := n0_; have HO138 := n1_; have HO148 := n2_; have HR132 := n3_; have HR145 := n4_; have HB := n5_; clear n0_ n1_ n2_ n3_ n4_ n5_; (try clear hb); (try clear hb2); (try clear hk); (try clear hi)))
                              go_ret
                              exact ⟨by first | rfl | (simp [errW_none, errW_some] <;> rfl) | (simp only [← hji15]; first | rfl | (simp [errW_none, errW_some] <;> rfl)) | (simp [*, errW_none, errW_some] <;> rfl), by repeat (first | (with_reducible first | exact HB.out | apply below_alloc | apply pw_below_drewN | apply below_drew1) | exact HB.out)⟩
                            · replace c27 := Bool.eq_false_iff.mpr c27
                              subst c27
                              have H1 : (some t153) = some r := by rw [if_neg (show ¬ (false = true) by decide)] at H; exact H
                              clear H
                              have H := H1
                              clear H1
                              obtain rfl := Option.some.inj H
                              obtain ⟨Ao44, co44, eo44⟩ := Kd.R_slice HO_7.out
                              subst eo44
                              try go_wp2
                              have n0_ := Aside0.mk (Kd.R_drew HO_7.out)
                              have n1_ := Aside0.mk (below_drew1 HB.out)
                              clear HO_7
                              clear HB
                              have HO_7 := n0_
                              have HB := n1_
                              clear n0_ n1_
                              have q46 : ((ji15) : Int) ≤ ((t121.length : Int) : Int) := of_decide_eq_true (by first | (with_reducible assumption) | assumption)
                              obtain ⟨i046, hi046, _, hsz46, _⟩ := info_parts info9
                              have hroom46 : t121.length ≤ co44 := (Kd.R_reads' HO_7.out).2.1
                              have hC46 : Kd.C Kd.string _ Ao44 t121.length t121 := (Kd.R_reads' HO_7.out).2.2
                              have hcut46 := cut_to (P := Try.prog) 30 9 .i64 Try.underlying30 hi046 Ao44 t121.length co44 (ji15) (of_decide_eq_true (by first | (with_reducible assumption) | assumption)) q46 hroom46
                              have hr46 := Kd.C_take (m := ((ji15) : Int).toNat) hC46 (by omega)
                              have hy46 : y129.length = ((ji15) : Int).toNat := (by rw [Ny129.out, List.length_take]; omega)
                              rw [← Ny129.out] at hr46
                              rw [← hy46] at hcut46
                              have HR132 := Aside0.mk hr46
                              have HC132 := Aside0.mk (show y129.length ≤ co44 from by omega)
                              clear hr46 hC46 hroom46 hi046 hsz46
                              have KY46 := Aside0.mk hy46
                              clear hy46
                              have KL46 := Aside0.mk (show ((ji15) : Int).toNat ≤ t121.length from by omega)
                              replace q46 := eq_true q46
                              have q47 : ((ji15) : Int) ≤ ((t121.length : Int) : Int) := of_decide_eq_true (by first | (with_reducible assumption) | assumption)
                              obtain ⟨i047, hi047, _, hsz47, _⟩ := info_parts info9
                              have hroom47 : t121.length ≤ co44 := (Kd.R_reads' HO_7.out).2.1
                              have hC47 : Kd.C Kd.string _ Ao44 t121.length t121 := (Kd.R_reads' HO_7.out).2.2
                              have q047 : (0 : Int) ≤ ((ji15) : Int) := of_decide_eq_true (by first | (with_reducible assumption) | assumption)
                              have hcut47 := cut_from (P := Try.prog) 30 9 .i64 Try.underlying30 hi047 1 hsz47 Ao44 t121.length co44 (ji15) q047 q47
                              have hr47 := Kd.C_drop (m := ((ji15) : Int).toNat) (c := co44) hC47 (by omega) hroom47
                              obtain ⟨A47, hA47⟩ : ∃ A1, A1 = (if co44 = ((ji15) : Int).toNat then Ao44 else (Ao44 : Option Addr).map (·.add (((ji15) : Int).toNat * 1))) := ⟨_, rfl⟩
                              obtain ⟨c47, hc47⟩ : ∃ c1, c1 = co44 - ((ji15) : Int).toNat := ⟨_, rfl⟩
                              have hy47 : y142.length = t121.length - ((ji15) : Int).toNat := (by rw [Ny142.out, List.length_drop] <;> omega)
                              rw [show (t121).drop ((ji15) : Int).toNat = y142 from Ny142.out.symm] at hr47
                              replace hr47 : Kd.C Kd.string _ A47 y142.length y142 := (by rw [hA47]; exact hr47)
                              rw [← hy47, ← hA47, ← hc47] at hcut47
                              have HR145 := Aside0.mk hr47
                              have HC145 := Aside0.mk (show y142.length ≤ c47 from by rw [hy47, hc47]; exact Nat.sub_le_sub_right hroom47 _)
                              clear hr47 hC47 hroom47 hi047 hsz47 hc47
                              have KY47 := Aside0.mk hy47
                              have KA47 := Aside0.mk hA47
                              clear hy47 hA47
                              have KL47 := Aside0.mk (show ((ji15) : Int).toNat ≤ t121.length from by omega)
                              replace q47 := eq_true q47
                              refine start_ (n := 13) (S := fun w' => True) (ds := []) #[false, false, false, false, false, false, false, false, false, false, false, false, false] (by kernel_rfl) rfl rfl trivial (fun hHeld => ?_); refine with_tabW laws_FnSgInsert.tab7 laws_FnSgInsert.bits7 (fun HT_ HW_ => ?_)
                              generalize wc.drew = w45 at HO_7 HB HR132 HR145 hHeld ⊢
                              refine pure_ (i := 1) (N := some 43) (v := ?_) (a' := ?_) #[false, true, false, false, false, false, false, false, false, false, false, false, false] rfl rfl (any_of HT_.out (by kernel_rfl)) (fun _ _ _ h => h) (Or.inl ⟨by rfl, ?_⟩) ?_ ?_
                              rotate_left
                              · intro w'
                                go_simp
                                with_reducible rfl
                              rotate_left
                              · simp only [Act.put, List.setIfInBounds_toArray, List.set_cons_zero, List.set_cons_succ, i64_w, i32_w]
                                rfl
                              refine pure_ (i := 2) (N := some 44) (v := ?_) (a' := ?_) #[false, true, true, false, false, false, false, false, false, false, false, false, false] rfl rfl (any_of HT_.out (by kernel_rfl)) (fun _ _ _ h => h) (Or.inl ⟨by rfl, ?_⟩) ?_ ?_
                              rotate_left
                              · intro w'
                                go_simp
                                with_reducible rfl
                              rotate_left
                              · simp only [Act.put, List.setIfInBounds_toArray, List.set_cons_zero, List.set_cons_succ, i64_w, i32_w]
                                rfl
                              refine pure_ (i := 3) (N := some 45) (v := ?_) (a' := ?_) #[false, true, true, true, false, false, false, false, false, false, false, false, false] rfl rfl (any_of HT_.out (by kernel_rfl)) (fun _ _ _ h => h) (Or.inl ⟨by rfl, ?_⟩) ?_ ?_
                              rotate_left
                              · intro w'
                                go_simp
                                with_reducible rfl
                              rotate_left
                              · simp only [Act.put, List.setIfInBounds_toArray, List.set_cons_zero, List.set_cons_succ, i64_w, i32_w]
                                rfl
                              refine pure_ (i := 5) (N := some 47) (v := ?_) (a' := ?_) #[false, true, true, true, false, true, false, false, false, false, false, false, false] rfl rfl (any_of HT_.out (by kernel_rfl)) (fun _ _ _ h => h) (Or.inl ⟨by rfl, ?_⟩) ?_ ?_
                              rotate_left
                              · intro w'
                                go_simp
                                with_reducible rfl
                              rotate_left
                              · simp only [Act.put, List.setIfInBounds_toArray, List.set_cons_zero, List.set_cons_succ, i64_w, i32_w]
                                rfl
                              refine pure_ (i := 8) (N := some 50) (v := ?_) (a' := ?_) #[false, true, true, true, false, true, false, false, true, false, false, false, false] rfl rfl (any_of HT_.out (by kernel_rfl)) (fun _ _ _ h => h) (Or.inl ⟨by rfl, ?_⟩) ?_ ?_
                              rotate_left
                              · intro w'
                                go_simp
                                with_reducible rfl
                              rotate_left
                              · simp only [Act.put, List.setIfInBounds_toArray, List.set_cons_zero, List.set_cons_succ, i64_w, i32_w]
                                rfl
                              refine pure_ (i := 9) (N := some 51) (v := ?_) (a' := ?_) #[false, true, true, true, false, true, false, false, true, true, false, false, false] rfl rfl (any_of HT_.out (by kernel_rfl)) (fun _ _ _ h => h) (Or.inl ⟨by rfl, ?_⟩) ?_ ?_
                              rotate_left
                              · intro w'
                                go_simp
                                with_reducible rfl
                              rotate_left
                              · simp only [Act.put, List.setIfInBounds_toArray, List.set_cons_zero, List.set_cons_succ, i64_w, i32_w]
                                rfl
                              refine pure_ (i := 10) (N := some 52) (v := ?_) (a' := ?_) #[false, true, true, true, false, true, false, false, true, true, true, false, false] rfl rfl (any_of HT_.out (by kernel_rfl)) (fun _ _ _ h => h) (Or.inl ⟨by rfl, ?_⟩) ?_ ?_
                              rotate_left
                              · intro w'
                                go_simp
                                with_reducible rfl
                              rotate_left
                              · simp only [Act.put, List.setIfInBounds_toArray, List.set_cons_zero, List.set_cons_succ, i64_w, i32_w]
                                rfl
                              refine join_ (σ := Value × Value × Value) 3 #[true, true, true, true, true, true, true, false, true, true, true, false, false] (fun s_ => [(42, s_.1), (46, s_.2.1), (48, s_.2.2)]) (fun s_ w' => (Kd.R Kd.string 9 w' w.heap.size (fun k_ => some k_ ≠ (s_.2.2 : Value).ownBlock ∧ some k_ ≠ (.slice Ao44 t121.length co44 : Value).ownBlock) s_.2.1 y133) ∧ (Kd.R Kd.string 9 w' w.heap.size (fun k_ => some k_ ≠ (s_.2.1 : Value).ownBlock ∧ some k_ ≠ (.slice Ao44 t121.length co44 : Value).ownBlock) s_.2.2 y136) ∧ (Kd.R Kd.string 9 w' w.heap.size (fun k_ => some k_ ≠ (s_.2.1 : Value).ownBlock ∧ some k_ ≠ (s_.2.2 : Value).ownBlock) (.slice Ao44 t121.length co44) t121) ∧ (Below w.heap.size w w')) ?_ ?_
                              rotate_left
                              · intro hCont
                                refine two_ (i := 0) (j := 6) (Ni := some 42) (Nj := some 48) #[true, true, true, true, false, true, false, false, true, true, true, false, false] #[false, true, true, true, false, true, true, false, true, true, true, false, false] rfl rfl rfl rfl (two_of HT_.out (by kernel_rfl)) (by decide) (by decide) (fun K hK => ?_) (fun K hK => ?_)
                                · skip
                                  refine Kd.R_lit_step Kd.string _ 9 ?hg (N := 42) ?hd (xs := ([] : List ByteArray)) (inner := []) (ok := fun _ => True) (okp := fun _ => True) ?hr ?hp (fun _ hk => hk) trivial (Below.refl _ _) (Nat.le_refl _) (by simp) ?_; (case hd => rfl); (case hg => rfl); (case hr => first | (go_simp; done) | (go_simp; rfl)); (case hp => exact (Reps.none _ _))
                                  intro v127 w48 ho49 hb hg_ hnew_
                                  clear hg_ hnew_
                                  (first | rw [← Ny126.out] at ho49 | (simp only [Int.reduceToNat] at ho49; rw [← Ny126.out] at ho49))
                                  have n0_ := Aside0.mk (Kd.R_elder' (by (with_reducible repeat (first | apply Kd.R_alloc | apply Kd.R_drewN | apply Kd.R_drew)); exact HO_7.out) (Kd.R_base ho49) hb)
                                  have n1_ := Aside0.mk (Kd.R_lower (Kd.R_new' ho49 (Kd.R_lt (by (with_reducible repeat (first | apply Kd.R_alloc | apply Kd.R_drewN | apply Kd.R_drew)); exact HO_7.out))) (below_size (by repeat (first | (with_reducible first | exact HB.out | apply below_alloc | apply pw_below_drewN | apply below_drew1) | exact HB.out))))
                                  have n2_ := Aside0.mk (Kd.C_below (by repeat (first | (with_reducible exact HR132.out) | (with_reducible refine Kd.C_alloc ?_ _) | (with_reducible refine Kd.C_drewN ?_ _) | (with_reducible refine Kd.C_drew ?_) | exact HR132.out)) hb)
                                  have n3_ := Aside0.mk (Kd.C_below (by repeat (first | (with_reducible exact HR145.out) | (with_reducible refine Kd.C_alloc ?_ _) | (with_reducible refine Kd.C_drewN ?_ _) | (with_reducible refine Kd.C_drew ?_) | exact HR145.out)) hb)
                                  have n4_ := Aside0.mk (below_step (by repeat (first | (with_reducible first | exact HB.out | apply below_alloc | apply pw_below_drewN | apply below_drew1) | exact HB.out)) hb)
                                  clear HO_7
                                  clear HR132
                                  clear HR145
                                  clear HB
                                  have HO_7 := n0_
                                  have HO128 := n1_
                                  have HR132 := n2_
                                  have HR145 := n3_
                                  have HB := n4_
                                  clear n0_ n1_ n2_ n3_ n4_
                                  clear hb ho49
                                  refine hK.out _ _ trivial (fun hHeld => ?_)
                                  clear hK K
                                  refine norm_ (a' := ?_) ?_ ?_
                                  rotate_left
                                  · show Act.put _ (some 42) _ = _
                                    simp only [Act.put, List.setIfInBounds_toArray, List.set_cons_zero, List.set_cons_succ, i64_w, i32_w]
                                    rfl
                                  refine two_ (i := 4) (j := 6) (Ni := some 46) (Nj := some 48) #[true, true, true, true, true, true, false, false, true, true, true, false, false] #[true, true, true, true, false, true, true, false, true, true, true, false, false] rfl rfl rfl rfl (two_of HT_.out (by kernel_rfl)) (by decide) (by decide) (fun K hK => ?_) (fun K hK => ?_)
                                  · skip
                                    refine Kd.R_append_rows_step Kd.string (w0 := w) w.heap.size (by rfl) (.tmp 42) (.tmp 45) 30 9 (.string ⟨#[]⟩) 16 rfl Try.underlying30 info9 rfl (by decide) (by omega) v127 y126 y129 _ _ _ (fun k_ => some k_ ≠ (.slice Ao44 t121.length co44 : Value).ownBlock) (fun _ => False) rfl rfl ?aO ?aR (fun _ _ h => h) (fun _ h => h.elim) ?aF ?aB ?aS ?aL ?_
                                    (case aR => repeat (first | exact (by repeat (first | (with_reducible exact HR132.out) | (with_reducible refine Kd.C_alloc ?_ _) | (with_reducible refine Kd.C_drewN ?_ _) | (with_reducible refine Kd.C_drew ?_) | exact HR132.out)) | (with_reducible refine Kd.C_alloc ?_ _) | (with_reducible refine Kd.C_drewN ?_ _) | (with_reducible refine Kd.C_drew ?_)))
                                    (case aB => exact (by repeat (first | (with_reducible first | exact HB.out | apply below_alloc | apply pw_below_drewN | apply below_drew1) | exact HB.out)))
                                    (case aF => exact (fun k_ hk => Kd.fresh' (Kd.R_lt (by (with_reducible repeat (first | apply Kd.R_alloc | apply Kd.R_drewN | apply Kd.R_drew)); exact HO_7.out)) k_ hk))
                                    (case aO => exact (by (with_reducible repeat (first | apply Kd.R_alloc | apply Kd.R_drewN | apply Kd.R_drew)); exact Kd.R_mono HO128.out (fun _ hk => hk.2)))
                                    (case aS => exact (below_size (by repeat (first | (with_reducible first | exact HB.out | apply below_alloc | apply pw_below_drewN | apply below_drew1) | exact HB.out))))
                                    (case aL => have := LMc18.out; omega)
                                    intro v134 w50 ho hb hg hat
                                    rw [← Ny133.out] at ho
                                    have n0_ := Aside0.mk (Kd.R_after (ok := (fun _ => True)) (by (with_reducible repeat (first | apply Kd.R_alloc | apply Kd.R_drewN | apply Kd.R_drew)); exact HO_7.out) hg hat)
                                    have n1_ := Aside0.mk (hb)
                                    have n2_ := Aside0.mk ((show Kd.C Kd.string w50 Ao44 y129.length y129 from by rw [Ny129.out]; exact Kd.C_take (m := ((ji15) : Int).toNat) ((Kd.R_reads' (Kd.R_after (ok := (fun _ => True)) (by (with_reducible repeat (first | apply Kd.R_alloc | apply Kd.R_drewN | apply Kd.R_drew)); exact HO_7.out) hg hat)).2.2) KL46.out))
                                    have n3_ := Aside0.mk ((show Kd.C Kd.string w50 A47 y142.length y142 from by rw [Ny142.out, KA47.out]; exact Kd.C_drop (m := ((ji15) : Int).toNat) (c := co44) ((Kd.R_reads' (Kd.R_after (ok := (fun _ => True)) (by (with_reducible repeat (first | apply Kd.R_alloc | apply Kd.R_drewN | apply Kd.R_drew)); exact HO_7.out) hg hat)).2.2) KL47.out ((Kd.R_reads' (Kd.R_after (ok := (fun _ => True)) (by (with_reducible repeat (first | apply Kd.R_alloc | apply Kd.R_drewN | apply Kd.R_drew)); exact HO_7.out) hg hat)).2.1)))
                                    have n4_ := Aside0.mk (ho)
                                    clear HO_7
                                    clear HB
                                    clear HR132
                                    clear HR145
                                    clear HO128
                                    have HO_7 := n0_
                                    have HB := n1_
                                    have HR132 := n2_
                                    have HR145 := n3_
                                    have HO135 := n4_
                                    clear n0_ n1_ n2_ n3_ n4_
                                    clear ho hb hg hat
                                    refine hK.out _ _ trivial (fun hHeld => ?_)
                                    clear hK K
                                    refine norm_ (a' := ?_) ?_ ?_
                                    rotate_left
                                    · show Act.put _ (some 46) _ = _
                                      simp only [Act.put, List.setIfInBounds_toArray, List.set_cons_zero, List.set_cons_succ, i64_w, i32_w]
                                      rfl
                                    refine one_ (i := 6) (N := some 48) #[true, true, true, true, true, true, true, false, true, true, true, false, false] rfl rfl (one_of HT_.out (by kernel_rfl)) (by decide) (fun K hK => ?_)
                                    refine Kd.R_lit_step Kd.string _ 9 ?hg (N := 48) ?hd (xs := ([a1] : List ByteArray)) (inner := [.string a1]) (ok := fun _ => True) (okp := fun _ => True) ?hr ?hp (fun _ hk => hk) trivial (Below.refl _ _) (Nat.le_refl _) (by simp) ?_; (case hd => rfl); (case hg => rfl); (case hr => first | (go_simp; done) | (go_simp; rfl)); (case hp => exact (Reps.one (show Kd.M Kd.string _ _ _ a1 [.string a1] from rfl) (Reps.none _ _)))
                                    intro v137 w51 ho52 hb hg_ hnew_
                                    clear hg_ hnew_
                                    (first | rw [← Ny136.out] at ho52 | (simp only [Int.reduceToNat] at ho52; rw [← Ny136.out] at ho52))
                                    have n0_ := Aside0.mk (Kd.R_elder' (by (with_reducible repeat (first | apply Kd.R_alloc | apply Kd.R_drewN | apply Kd.R_drew)); exact HO_7.out) (Kd.R_base ho52) hb)
                                    have n1_ := Aside0.mk (Kd.R_elder' (by (with_reducible repeat (first | apply Kd.R_alloc | apply Kd.R_drewN | apply Kd.R_drew)); exact HO135.out) (Kd.R_base ho52) hb)
                                    have n2_ := Aside0.mk (Kd.R_lower (Kd.R_new' (Kd.R_new' ho52 (Kd.R_lt (by (with_reducible repeat (first | apply Kd.R_alloc | apply Kd.R_drewN | apply Kd.R_drew)); exact HO_7.out))) (Kd.R_lt (by (with_reducible repeat (first | apply Kd.R_alloc | apply Kd.R_drewN | apply Kd.R_drew)); exact HO135.out))) (below_size (by repeat (first | (with_reducible first | exact HB.out | apply below_alloc | apply pw_below_drewN | apply below_drew1) | exact HB.out))))
                                    have n3_ := Aside0.mk (Kd.C_below (by repeat (first | (with_reducible exact HR132.out) | (with_reducible refine Kd.C_alloc ?_ _) | (with_reducible refine Kd.C_drewN ?_ _) | (with_reducible refine Kd.C_drew ?_) | exact HR132.out)) hb)
                                    have n4_ := Aside0.mk (Kd.C_below (by repeat (first | (with_reducible exact HR145.out) | (with_reducible refine Kd.C_alloc ?_ _) | (with_reducible refine Kd.C_drewN ?_ _) | (with_reducible refine Kd.C_drew ?_) | exact HR145.out)) hb)
                                    have n5_ := Aside0.mk (below_step (by repeat (first | (with_reducible first | exact HB.out | apply below_alloc | apply pw_below_drewN | apply below_drew1) | exact HB.out)) hb)
                                    clear HO_7
                                    clear HO135
                                    clear HR132
                                    clear HR145
                                    clear HB
                                    have HO_7 := n0_
                                    have HO135 := n1_
                                    have HO138 := n2_
                                    have HR132 := n3_
                                    have HR145 := n4_
                                    have HB := n5_
                                    clear n0_ n1_ n2_ n3_ n4_ n5_
                                    clear hb ho52
                                    refine hK.out _ _ trivial (fun hHeld => ?_)
                                    clear hK K
                                    refine norm_ (a' := ?_) ?_ ?_
                                    rotate_left
                                    · show Act.put _ (some 48) _ = _
                                      simp only [Act.put, List.setIfInBounds_toArray, List.set_cons_zero, List.set_cons_succ, i64_w, i32_w]
                                      rfl
                                    exact norm_ (by simp only [putAll, Act.put, List.setIfInBounds_toArray, List.set_cons_zero, List.set_cons_succ]) (hCont (v127, v134, v137) _ ⟨(by (with_reducible repeat (first | apply Kd.R_alloc | apply Kd.R_drewN | apply Kd.R_drew)); exact Kd.R_mono HO135.out (fun _ hk => ⟨hk.2, hk.1⟩)), (by (with_reducible repeat (first | apply Kd.R_alloc | apply Kd.R_drewN | apply Kd.R_drew)); exact Kd.R_mono HO138.out (fun _ hk => ⟨hk.2, hk.1.2⟩)), (by (with_reducible repeat (first | apply Kd.R_alloc | apply Kd.R_drewN | apply Kd.R_drew)); exact Kd.R_mono HO_7.out (fun _ hk => ⟨hk.1.2, hk.2⟩)), (by repeat (first | (with_reducible first | exact HB.out | apply below_alloc | apply pw_below_drewN | apply below_drew1) | exact HB.out))⟩)
                                  · skip
                                    refine Kd.R_lit_step Kd.string _ 9 ?hg (N := 48) ?hd (xs := ([a1] : List ByteArray)) (inner := [.string a1]) (ok := fun _ => True) (okp := fun _ => True) ?hr ?hp (fun _ hk => hk) trivial (Below.refl _ _) (Nat.le_refl _) (by simp) ?_; (case hd => rfl); (case hg => rfl); (case hr => first | (go_simp; done) | (go_simp; rfl)); (case hp => exact (Reps.one (show Kd.M Kd.string _ _ _ a1 [.string a1] from rfl) (Reps.none _ _)))
                                    intro v137 w50 ho51 hb hg_ hnew_
                                    clear hg_ hnew_
                                    (first | rw [← Ny136.out] at ho51 | (simp only [Int.reduceToNat] at ho51; rw [← Ny136.out] at ho51))
                                    have n0_ := Aside0.mk (Kd.R_elder' (by (with_reducible repeat (first | apply Kd.R_alloc | apply Kd.R_drewN | apply Kd.R_drew)); exact HO_7.out) (Kd.R_base ho51) hb)
                                    have n1_ := Aside0.mk (Kd.R_elder' (by (with_reducible repeat (first | apply Kd.R_alloc | apply Kd.R_drewN | apply Kd.R_drew)); exact HO128.out) (Kd.R_base ho51) hb)
                                    have n2_ := Aside0.mk (Kd.R_lower (Kd.R_new' (Kd.R_new' ho51 (Kd.R_lt (by (with_reducible repeat (first | apply Kd.R_alloc | apply Kd.R_drewN | apply Kd.R_drew)); exact HO_7.out))) (Kd.R_lt (by (with_reducible repeat (first | apply Kd.R_alloc | apply Kd.R_drewN | apply Kd.R_drew)); exact HO128.out))) (below_size (by repeat (first | (with_reducible first | exact HB.out | apply below_alloc | apply pw_below_drewN | apply below_drew1) | exact HB.out))))
                                    have n3_ := Aside0.mk (Kd.C_below (by repeat (first | (with_reducible exact HR132.out) | (with_reducible refine Kd.C_alloc ?_ _) | (with_reducible refine Kd.C_drewN ?_ _) | (with_reducible refine Kd.C_drew ?_) | exact HR132.out)) hb)
                                    have n4_ := Aside0.mk (Kd.C_below (by repeat (first | (with_reducible exact HR145.out) | (with_reducible refine Kd.C_alloc ?_ _) | (with_reducible refine Kd.C_drewN ?_ _) | (with_reducible refine Kd.C_drew ?_) | exact HR145.out)) hb)
                                    have n5_ := Aside0.mk (below_step (by repeat (first | (with_reducible first | exact HB.out | apply below_alloc | apply pw_below_drewN | apply below_drew1) | exact HB.out)) hb)
                                    clear HO_7
                                    clear HO128
                                    clear HR132
                                    clear HR145
                                    clear HB
                                    have HO_7 := n0_
                                    have HO128 := n1_
                                    have HO138 := n2_
                                    have HR132 := n3_
                                    have HR145 := n4_
                                    have HB := n5_
                                    clear n0_ n1_ n2_ n3_ n4_ n5_
                                    clear hb ho51
                                    refine hK.out _ _ trivial (fun hHeld => ?_)
                                    clear hK K
                                    refine norm_ (a' := ?_) ?_ ?_
                                    rotate_left
                                    · show Act.put _ (some 48) _ = _
                                      simp only [Act.put, List.setIfInBounds_toArray, List.set_cons_zero, List.set_cons_succ, i64_w, i32_w]
                                      rfl
                                    refine one_ (i := 4) (N := some 46) #[true, true, true, true, true, true, true, false, true, true, true, false, false] rfl rfl (one_of HT_.out (by kernel_rfl)) (by decide) (fun K hK => ?_)
                                    refine Kd.R_append_rows_step Kd.string (w0 := w) w.heap.size (by rfl) (.tmp 42) (.tmp 45) 30 9 (.string ⟨#[]⟩) 16 rfl Try.underlying30 info9 rfl (by decide) (by omega) v127 y126 y129 _ _ _ (fun k_ => some k_ ≠ (.slice Ao44 t121.length co44 : Value).ownBlock ∧ some k_ ≠ (v137 : Value).ownBlock) (fun _ => False) rfl rfl ?aO ?aR (fun _ _ h => h) (fun _ h => h.elim) ?aF ?aB ?aS ?aL ?_
                                    (case aR => repeat (first | exact (by repeat (first | (with_reducible exact HR132.out) | (with_reducible refine Kd.C_alloc ?_ _) | (with_reducible refine Kd.C_drewN ?_ _) | (with_reducible refine Kd.C_drew ?_) | exact HR132.out)) | (with_reducible refine Kd.C_alloc ?_ _) | (with_reducible refine Kd.C_drewN ?_ _) | (with_reducible refine Kd.C_drew ?_)))
                                    (case aB => exact (by repeat (first | (with_reducible first | exact HB.out | apply below_alloc | apply pw_below_drewN | apply below_drew1) | exact HB.out)))
                                    (case aF => exact (fun k_ hk => ⟨Kd.fresh' (Kd.R_lt (by (with_reducible repeat (first | apply Kd.R_alloc | apply Kd.R_drewN | apply Kd.R_drew)); exact HO_7.out)) k_ hk, Kd.fresh' (Kd.R_lt (by (with_reducible repeat (first | apply Kd.R_alloc | apply Kd.R_drewN | apply Kd.R_drew)); exact HO138.out)) k_ hk⟩))
                                    (case aO => exact (by (with_reducible repeat (first | apply Kd.R_alloc | apply Kd.R_drewN | apply Kd.R_drew)); exact Kd.R_mono HO128.out (fun _ hk => ⟨hk.1.2, hk.2⟩)))
                                    (case aS => exact (below_size (by repeat (first | (with_reducible first | exact HB.out | apply below_alloc | apply pw_below_drewN | apply below_drew1) | exact HB.out))))
                                    (case aL => have := LMc18.out; omega)
                                    intro v134 w52 ho hb hg hat
                                    rw [← Ny133.out] at ho
                                    have n0_ := Aside0.mk (Kd.R_after (ok := (fun k_ => some k_ ≠ (v137 : Value).ownBlock)) (by (with_reducible repeat (first | apply Kd.R_alloc | apply Kd.R_drewN | apply Kd.R_drew)); exact Kd.R_mono HO_7.out (fun _ hk => ⟨hk.2, hk.1.2⟩)) hg hat)
                                    have n1_ := Aside0.mk (Kd.R_after (ok := (fun k_ => some k_ ≠ (.slice Ao44 t121.length co44 : Value).ownBlock)) (by (with_reducible repeat (first | apply Kd.R_alloc | apply Kd.R_drewN | apply Kd.R_drew)); exact Kd.R_mono HO138.out (fun _ hk => ⟨hk.1.2, hk.2⟩)) hg hat)
                                    have n2_ := Aside0.mk (hb)
                                    have n3_ := Aside0.mk ((show Kd.C Kd.string w52 Ao44 y129.length y129 from by rw [Ny129.out]; exact Kd.C_take (m := ((ji15) : Int).toNat) ((Kd.R_reads' (Kd.R_after (ok := (fun k_ => some k_ ≠ (v137 : Value).ownBlock)) (by (with_reducible repeat (first | apply Kd.R_alloc | apply Kd.R_drewN | apply Kd.R_drew)); exact Kd.R_mono HO_7.out (fun _ hk => ⟨hk.2, hk.1.2⟩)) hg hat)).2.2) KL46.out))
                                    have n4_ := Aside0.mk ((show Kd.C Kd.string w52 A47 y142.length y142 from by rw [Ny142.out, KA47.out]; exact Kd.C_drop (m := ((ji15) : Int).toNat) (c := co44) ((Kd.R_reads' (Kd.R_after (ok := (fun k_ => some k_ ≠ (v137 : Value).ownBlock)) (by (with_reducible repeat (first | apply Kd.R_alloc | apply Kd.R_drewN | apply Kd.R_drew)); exact Kd.R_mono HO_7.out (fun _ hk => ⟨hk.2, hk.1.2⟩)) hg hat)).2.2) KL47.out ((Kd.R_reads' (Kd.R_after (ok := (fun k_ => some k_ ≠ (v137 : Value).ownBlock)) (by (with_reducible repeat (first | apply Kd.R_alloc | apply Kd.R_drewN | apply Kd.R_drew)); exact Kd.R_mono HO_7.out (fun _ hk => ⟨hk.2, hk.1.2⟩)) hg hat)).2.1)))
                                    have n5_ := Aside0.mk (ho)
                                    clear HO_7
                                    clear HO138
                                    clear HB
                                    clear HR132
                                    clear HR145
                                    clear HO128
                                    have HO_7 := n0_
                                    have HO138 := n1_
                                    have HB := n2_
                                    have HR132 := n3_
                                    have HR145 := n4_
                                    have HO135 := n5_
                                    clear n0_ n1_ n2_ n3_ n4_ n5_
                                    clear ho hb hg hat
                                    refine hK.out _ _ trivial (fun hHeld => ?_)
                                    clear hK K
                                    refine norm_ (a' := ?_) ?_ ?_
                                    rotate_left
                                    · show Act.put _ (some 46) _ = _
                                      simp only [Act.put, List.setIfInBounds_toArray, List.set_cons_zero, List.set_cons_succ, i64_w, i32_w]
                                      rfl
                                    exact norm_ (by simp only [putAll, Act.put, List.setIfInBounds_toArray, List.set_cons_zero, List.set_cons_succ]) (hCont (v127, v134, v137) _ ⟨(by (with_reducible repeat (first | apply Kd.R_alloc | apply Kd.R_drewN | apply Kd.R_drew)); exact Kd.R_mono HO135.out (fun _ hk => ⟨hk.2, hk.1⟩)), (by (with_reducible repeat (first | apply Kd.R_alloc | apply Kd.R_drewN | apply Kd.R_drew)); exact Kd.R_mono HO138.out (fun _ hk => ⟨hk.2, hk.1⟩)), (by (with_reducible repeat (first | apply Kd.R_alloc | apply Kd.R_drewN | apply Kd.R_drew)); exact Kd.R_mono HO_7.out (fun _ hk => ⟨hk.2, hk.1⟩)), (by repeat (first | (with_reducible first | exact HB.out | apply below_alloc | apply pw_below_drewN | apply below_drew1) | exact HB.out))⟩)
                                · skip
                                  refine Kd.R_lit_step Kd.string _ 9 ?hg (N := 48) ?hd (xs := ([a1] : List ByteArray)) (inner := [.string a1]) (ok := fun _ => True) (okp := fun _ => True) ?hr ?hp (fun _ hk => hk) trivial (Below.refl _ _) (Nat.le_refl _) (by simp) ?_; (case hd => rfl); (case hg => rfl); (case hr => first | (go_simp; done) | (go_simp; rfl)); (case hp => exact (Reps.one (show Kd.M Kd.string _ _ _ a1 [.string a1] from rfl) (Reps.none _ _)))
                                  intro v137 w48 ho49 hb hg_ hnew_
                                  clear hg_ hnew_
                                  (first | rw [← Ny136.out] at ho49 | (simp only [Int.reduceToNat] at ho49; rw [← Ny136.out] at ho49))
                                  have n0_ := Aside0.mk (Kd.R_elder' (by (with_reducible repeat (first | apply Kd.R_alloc | apply Kd.R_drewN | apply Kd.R_drew)); exact HO_7.out) (Kd.R_base ho49) hb)
                                  have n1_ := Aside0.mk (Kd.R_lower (Kd.R_new' ho49 (Kd.R_lt (by (with_reducible repeat (first | apply Kd.R_alloc | apply Kd.R_drewN | apply Kd.R_drew)); exact HO_7.out))) (below_size (by repeat (first | (with_reducible first | exact HB.out | apply below_alloc | apply pw_below_drewN | apply below_drew1) | exact HB.out))))
                                  have n2_ := Aside0.mk (Kd.C_below (by repeat (first | (with_reducible exact HR132.out) | (with_reducible refine Kd.C_alloc ?_ _) | (with_reducible refine Kd.C_drewN ?_ _) | (with_reducible refine Kd.C_drew ?_) | exact HR132.out)) hb)
                                  have n3_ := Aside0.mk (Kd.C_below (by repeat (first | (with_reducible exact HR145.out) | (with_reducible refine Kd.C_alloc ?_ _) | (with_reducible refine Kd.C_drewN ?_ _) | (with_reducible refine Kd.C_drew ?_) | exact HR145.out)) hb)
                                  have n4_ := Aside0.mk (below_step (by repeat (first | (with_reducible first | exact HB.out | apply below_alloc | apply pw_below_drewN | apply below_drew1) | exact HB.out)) hb)
                                  clear HO_7
                                  clear HR132
                                  clear HR145
                                  clear HB
                                  have HO_7 := n0_
                                  have HO138 := n1_
                                  have HR132 := n2_
                                  have HR145 := n3_
                                  have HB := n4_
                                  clear n0_ n1_ n2_ n3_ n4_
                                  clear hb ho49
                                  refine hK.out _ _ trivial (fun hHeld => ?_)
                                  clear hK K
                                  refine norm_ (a' := ?_) ?_ ?_
                                  rotate_left
                                  · show Act.put _ (some 48) _ = _
                                    simp only [Act.put, List.setIfInBounds_toArray, List.set_cons_zero, List.set_cons_succ, i64_w, i32_w]
                                    rfl
                                  refine one_ (i := 0) (N := some 42) #[true, true, true, true, false, true, true, false, true, true, true, false, false] rfl rfl (one_of HT_.out (by kernel_rfl)) (by decide) (fun K hK => ?_)
                                  refine Kd.R_lit_step Kd.string _ 9 ?hg (N := 42) ?hd (xs := ([] : List ByteArray)) (inner := []) (ok := fun _ => True) (okp := fun _ => True) ?hr ?hp (fun _ hk => hk) trivial (Below.refl _ _) (Nat.le_refl _) (by simp) ?_; (case hd => rfl); (case hg => rfl); (case hr => first | (go_simp; done) | (go_simp; rfl)); (case hp => exact (Reps.none _ _))
                                  intro v127 w50 ho51 hb hg_ hnew_
                                  clear hg_ hnew_
                                  (first | rw [← Ny126.out] at ho51 | (simp only [Int.reduceToNat] at ho51; rw [← Ny126.out] at ho51))
                                  have n0_ := Aside0.mk (Kd.R_elder' (by (with_reducible repeat (first | apply Kd.R_alloc | apply Kd.R_drewN | apply Kd.R_drew)); exact HO_7.out) (Kd.R_base ho51) hb)
                                  have n1_ := Aside0.mk (Kd.R_elder' (by (with_reducible repeat (first | apply Kd.R_alloc | apply Kd.R_drewN | apply Kd.R_drew)); exact HO138.out) (Kd.R_base ho51) hb)
                                  have n2_ := Aside0.mk (Kd.R_lower (Kd.R_new' (Kd.R_new' ho51 (Kd.R_lt (by (with_reducible repeat (first | apply Kd.R_alloc | apply Kd.R_drewN | apply Kd.R_drew)); exact HO_7.out))) (Kd.R_lt (by (with_reducible repeat (first | apply Kd.R_alloc | apply Kd.R_drewN | apply Kd.R_drew)); exact HO138.out))) (below_size (by repeat (first | (with_reducible first | exact HB.out | apply below_alloc | apply pw_below_drewN | apply below_drew1) | exact HB.out))))
                                  have n3_ := Aside0.mk (Kd.C_below (by repeat (first | (with_reducible exact HR132.out) | (with_reducible refine Kd.C_alloc ?_ _) | (with_reducible refine Kd.C_drewN ?_ _) | (with_reducible refine Kd.C_drew ?_) | exact HR132.out)) hb)
                                  have n4_ := Aside0.mk (Kd.C_below (by repeat (first | (with_reducible exact HR145.out) | (with_reducible refine Kd.C_alloc ?_ _) | (with_reducible refine Kd.C_drewN ?_ _) | (with_reducible refine Kd.C_drew ?_) | exact HR145.out)) hb)
                                  have n5_ := Aside0.mk (below_step (by repeat (first | (with_reducible first | exact HB.out | apply below_alloc | apply pw_below_drewN | apply below_drew1) | exact HB.out)) hb)
                                  clear HO_7
                                  clear HO138
                                  clear HR132
                                  clear HR145
                                  clear HB
                                  have HO_7 := n0_
                                  have HO138 := n1_
                                  have HO128 := n2_
                                  have HR132 := n3_
                                  have HR145 := n4_
                                  have HB := n5_
                                  clear n0_ n1_ n2_ n3_ n4_ n5_
                                  clear hb ho51
                                  refine hK.out _ _ trivial (fun hHeld => ?_)
                                  clear hK K
                                  refine norm_ (a' := ?_) ?_ ?_
                                  rotate_left
                                  · show Act.put _ (some 42) _ = _
                                    simp only [Act.put, List.setIfInBounds_toArray, List.set_cons_zero, List.set_cons_succ, i64_w, i32_w]
                                    rfl
                                  refine one_ (i := 4) (N := some 46) #[true, true, true, true, true, true, true, false, true, true, true, false, false] rfl rfl (one_of HT_.out (by kernel_rfl)) (by decide) (fun K hK => ?_)
                                  refine Kd.R_append_rows_step Kd.string (w0 := w) w.heap.size (by rfl) (.tmp 42) (.tmp 45) 30 9 (.string ⟨#[]⟩) 16 rfl Try.underlying30 info9 rfl (by decide) (by omega) v127 y126 y129 _ _ _ (fun k_ => some k_ ≠ (.slice Ao44 t121.length co44 : Value).ownBlock ∧ some k_ ≠ (v137 : Value).ownBlock) (fun _ => False) rfl rfl ?aO ?aR (fun _ _ h => h) (fun _ h => h.elim) ?aF ?aB ?aS ?aL ?_
                                  (case aR => repeat (first | exact (by repeat (first | (with_reducible exact HR132.out) | (with_reducible refine Kd.C_alloc ?_ _) | (with_reducible refine Kd.C_drewN ?_ _) | (with_reducible refine Kd.C_drew ?_) | exact HR132.out)) | (with_reducible refine Kd.C_alloc ?_ _) | (with_reducible refine Kd.C_drewN ?_ _) | (with_reducible refine Kd.C_drew ?_)))
                                  (case aB => exact (by repeat (first | (with_reducible first | exact HB.out | apply below_alloc | apply pw_below_drewN | apply below_drew1) | exact HB.out)))
                                  (case aF => exact (fun k_ hk => ⟨Kd.fresh' (Kd.R_lt (by (with_reducible repeat (first | apply Kd.R_alloc | apply Kd.R_drewN | apply Kd.R_drew)); exact HO_7.out)) k_ hk, Kd.fresh' (Kd.R_lt (by (with_reducible repeat (first | apply Kd.R_alloc | apply Kd.R_drewN | apply Kd.R_drew)); exact HO138.out)) k_ hk⟩))
                                  (case aO => exact (by (with_reducible repeat (first | apply Kd.R_alloc | apply Kd.R_drewN | apply Kd.R_drew)); exact Kd.R_mono HO128.out (fun _ hk => ⟨hk.1.2, hk.2⟩)))
                                  (case aS => exact (below_size (by repeat (first | (with_reducible first | exact HB.out | apply below_alloc | apply pw_below_drewN | apply below_drew1) | exact HB.out))))
                                  (case aL => have := LMc18.out; omega)
                                  intro v134 w52 ho hb hg hat
                                  rw [← Ny133.out] at ho
                                  have n0_ := Aside0.mk (Kd.R_after (ok := (fun k_ => some k_ ≠ (v137 : Value).ownBlock)) (by (with_reducible repeat (first | apply Kd.R_alloc | apply Kd.R_drewN | apply Kd.R_drew)); exact Kd.R_mono HO_7.out (fun _ hk => ⟨hk.1.2, hk.2⟩)) hg hat)
                                  have n1_ := Aside0.mk (Kd.R_after (ok := (fun k_ => some k_ ≠ (.slice Ao44 t121.length co44 : Value).ownBlock)) (by (with_reducible repeat (first | apply Kd.R_alloc | apply Kd.R_drewN | apply Kd.R_drew)); exact Kd.R_mono HO138.out (fun _ hk => ⟨hk.1.2, hk.2⟩)) hg hat)
                                  have n2_ := Aside0.mk (hb)
                                  have n3_ := Aside0.mk ((show Kd.C Kd.string w52 Ao44 y129.length y129 from by rw [Ny129.out]; exact Kd.C_take (m := ((ji15) : Int).toNat) ((Kd.R_reads' (Kd.R_after (ok := (fun k_ => some k_ ≠ (v137 : Value).ownBlock)) (by (with_reducible repeat (first | apply Kd.R_alloc | apply Kd.R_drewN | apply Kd.R_drew)); exact Kd.R_mono HO_7.out (fun _ hk => ⟨hk.1.2, hk.2⟩)) hg hat)).2.2) KL46.out))
                                  have n4_ := Aside0.mk ((show Kd.C Kd.string w52 A47 y142.length y142 from by rw [Ny142.out, KA47.out]; exact Kd.C_drop (m := ((ji15) : Int).toNat) (c := co44) ((Kd.R_reads' (Kd.R_after (ok := (fun k_ => some k_ ≠ (v137 : Value).ownBlock)) (by (with_reducible repeat (first | apply Kd.R_alloc | apply Kd.R_drewN | apply Kd.R_drew)); exact Kd.R_mono HO_7.out (fun _ hk => ⟨hk.1.2, hk.2⟩)) hg hat)).2.2) KL47.out ((Kd.R_reads' (Kd.R_after (ok := (fun k_ => some k_ ≠ (v137 : Value).ownBlock)) (by (with_reducible repeat (first | apply Kd.R_alloc | apply Kd.R_drewN | apply Kd.R_drew)); exact Kd.R_mono HO_7.out (fun _ hk => ⟨hk.1.2, hk.2⟩)) hg hat)).2.1)))
                                  have n5_ := Aside0.mk (ho)
                                  clear HO_7
                                  clear HO138
                                  clear HB
                                  clear HR132
                                  clear HR145
                                  clear HO128
                                  have HO_7 := n0_
                                  have HO138 := n1_
                                  have HB := n2_
                                  have HR132 := n3_
                                  have HR145 := n4_
                                  have HO135 := n5_
                                  clear n0_ n1_ n2_ n3_ n4_ n5_
                                  clear ho hb hg hat
                                  refine hK.out _ _ trivial (fun hHeld => ?_)
                                  clear hK K
                                  refine norm_ (a' := ?_) ?_ ?_
                                  rotate_left
                                  · show Act.put _ (some 46) _ = _
                                    simp only [Act.put, List.setIfInBounds_toArray, List.set_cons_zero, List.set_cons_succ, i64_w, i32_w]
                                    rfl
                                  exact norm_ (by simp only [putAll, Act.put, List.setIfInBounds_toArray, List.set_cons_zero, List.set_cons_succ]) (hCont (v127, v134, v137) _ ⟨(by (with_reducible repeat (first | apply Kd.R_alloc | apply Kd.R_drewN | apply Kd.R_drew)); exact Kd.R_mono HO135.out (fun _ hk => ⟨hk.2, hk.1⟩)), (by (with_reducible repeat (first | apply Kd.R_alloc | apply Kd.R_drewN | apply Kd.R_drew)); exact Kd.R_mono HO138.out (fun _ hk => ⟨hk.2, hk.1⟩)), (by (with_reducible repeat (first | apply Kd.R_alloc | apply Kd.R_drewN | apply Kd.R_drew)); exact Kd.R_mono HO_7.out (fun _ hk => ⟨hk.2, hk.1⟩)), (by repeat (first | (with_reducible first | exact HB.out | apply below_alloc | apply pw_below_drewN | apply below_drew1) | exact HB.out))⟩)
                              rintro ⟨v127, v134, v137⟩ w53 ⟨h0_, h1_, h2_, h3_⟩
                              have n0_ : Aside0 (Kd.R Kd.string 9 w53 w.heap.size (fun k_ => some k_ ≠ (v137 : Value).ownBlock ∧ some k_ ≠ (.slice Ao44 t121.length co44 : Value).ownBlock) v134 y133) := ⟨h0_⟩
                              have n1_ : Aside0 (Kd.R Kd.string 9 w53 w.heap.size (fun k_ => some k_ ≠ (v134 : Value).ownBlock ∧ some k_ ≠ (.slice Ao44 t121.length co44 : Value).ownBlock) v137 y136) := ⟨h1_⟩
                              have n2_ : Aside0 (Kd.R Kd.string 9 w53 w.heap.size (fun k_ => some k_ ≠ (v134 : Value).ownBlock ∧ some k_ ≠ (v137 : Value).ownBlock) (.slice Ao44 t121.length co44) t121) := ⟨h2_⟩
                              have n3_ : Aside0 (Below w.heap.size w w53) := ⟨h3_⟩
                              clear HO_7
                              clear HB
                              clear h0_ h1_ h2_ h3_
                              have HO135 := n0_
                              have HO138 := n1_
                              have HO_7 := n2_
                              have HB := n3_
                              clear n0_ n1_ n2_ n3_
                              have hHeld := trivial
                              have HR132 := Aside0.mk ((show Kd.C Kd.string w53 Ao44 y129.length y129 from by rw [Ny129.out]; exact Kd.C_take (m := ((ji15) : Int).toNat) ((Kd.R_reads' (HO_7.out)).2.2) KL46.out))
                              have HR145 := Aside0.mk ((show Kd.C Kd.string w53 A47 y142.length y142 from by rw [Ny142.out, KA47.out]; exact Kd.C_drop (m := ((ji15) : Int).toNat) (c := co44) ((Kd.R_reads' (HO_7.out)).2.2) KL47.out ((Kd.R_reads' (HO_7.out)).2.1)))
                              obtain ⟨Ao55, co55, eo55⟩ := Kd.R_slice HO138.out
                              (first | subst eo55 | (injection eo55 with f1_ f2_ f3_; have f4_ := f1_.symm; have f5_ := f3_.symm; clear f1_ f2_ f3_; subst f4_; subst f5_))
                              refine norm_ (a' := ?_) ?_ ?_
                              rotate_left
                              · simp only [putAll, Act.put, List.setIfInBounds_toArray, List.set_cons_zero, List.set_cons_succ]
                                rfl
                              refine one_ (i := 7) (N := some 49) #[true, true, true, true, true, true, true, true, true, true, true, false, false] rfl rfl (one_of HT_.out (by kernel_rfl)) (by decide) (fun K hK => ?_)
                              refine Kd.R_append_rows_step Kd.string (w0 := w) w.heap.size (by rfl) (.tmp 46) (.tmp 48) 30 9 (.string ⟨#[]⟩) 16 rfl Try.underlying30 info9 rfl (by decide) (by omega) v134 y133 y136 _ _ _ (fun k_ => some k_ ≠ (.slice Ao44 t121.length co44 : Value).ownBlock ∧ some k_ ≠ (.slice Ao55 y136.length co55 : Value).ownBlock) (fun _ => False) rfl rfl ?aO ?aR (fun _ _ h => h) (fun _ h => h.elim) ?aF ?aB ?aS ?aL ?_
                              (case aR => repeat (first | exact (Kd.R_reads' HO138.out).2.2 | (with_reducible refine Kd.C_alloc ?_ _) | (with_reducible refine Kd.C_drewN ?_ _) | (with_reducible refine Kd.C_drew ?_)))
                              (case aB => exact (by repeat (first | (with_reducible first | exact HB.out | apply below_alloc | apply pw_below_drewN | apply below_drew1) | exact HB.out)))
                              (case aF => exact (fun k_ hk => ⟨Kd.fresh' (Kd.R_lt (by (with_reducible repeat (first | apply Kd.R_alloc | apply Kd.R_drewN | apply Kd.R_drew)); exact HO_7.out)) k_ hk, Kd.fresh' (Kd.R_lt (by (with_reducible repeat (first | apply Kd.R_alloc | apply Kd.R_drewN | apply Kd.R_drew)); exact HO138.out)) k_ hk⟩))
                              (case aO => exact (by (with_reducible repeat (first | apply Kd.R_alloc | apply Kd.R_drewN | apply Kd.R_drew)); exact Kd.R_mono HO135.out (fun _ hk => ⟨hk.2, hk.1⟩)))
                              (case aS => exact (below_size (by repeat (first | (with_reducible first | exact HB.out | apply below_alloc | apply pw_below_drewN | apply below_drew1) | exact HB.out))))
                              (case aL => have := LMc19.out; omega)
                              intro v140 w54 ho hb hg hat
                              rw [← Ny139.out] at ho
                              have n0_ := Aside0.mk (Kd.R_after (ok := (fun k_ => some k_ ≠ (.slice Ao55 y136.length co55 : Value).ownBlock)) (by (with_reducible repeat (first | apply Kd.R_alloc | apply Kd.R_drewN | apply Kd.R_drew)); exact Kd.R_mono HO_7.out (fun _ hk => ⟨hk.2, hk.1⟩)) hg hat)
                              have n1_ := Aside0.mk (Kd.R_after (ok := (fun k_ => some k_ ≠ (.slice Ao44 t121.length co44 : Value).ownBlock)) (by (with_reducible repeat (first | apply Kd.R_alloc | apply Kd.R_drewN | apply Kd.R_drew)); exact Kd.R_mono HO138.out (fun _ hk => ⟨hk.2, hk.1⟩)) hg hat)
                              have n2_ := Aside0.mk (hb)
                              have n3_ := Aside0.mk ((show Kd.C Kd.string w54 Ao44 y129.length y129 from by rw [Ny129.out]; exact Kd.C_take (m := ((ji15) : Int).toNat) ((Kd.R_reads' (Kd.R_after (ok := (fun k_ => some k_ ≠ (.slice Ao55 y136.length co55 : Value).ownBlock)) (by (with_reducible repeat (first | apply Kd.R_alloc | apply Kd.R_drewN | apply Kd.R_drew)); exact Kd.R_mono HO_7.out (fun _ hk => ⟨hk.2, hk.1⟩)) hg hat)).2.2) KL46.out))
                              have n4_ := Aside0.mk ((show Kd.C Kd.string w54 A47 y142.length y142 from by rw [Ny142.out, KA47.out]; exact Kd.C_drop (m := ((ji15) : Int).toNat) (c := co44) ((Kd.R_reads' (Kd.R_after (ok := (fun k_ => some k_ ≠ (.slice Ao55 y136.length co55 : Value).ownBlock)) (by (with_reducible repeat (first | apply Kd.R_alloc | apply Kd.R_drewN | apply Kd.R_drew)); exact Kd.R_mono HO_7.out (fun _ hk => ⟨hk.2, hk.1⟩)) hg hat)).2.2) KL47.out ((Kd.R_reads' (Kd.R_after (ok := (fun k_ => some k_ ≠ (.slice Ao55 y136.length co55 : Value).ownBlock)) (by (with_reducible repeat (first | apply Kd.R_alloc | apply Kd.R_drewN | apply Kd.R_drew)); exact Kd.R_mono HO_7.out (fun _ hk => ⟨hk.2, hk.1⟩)) hg hat)).2.1)))
                              have n5_ := Aside0.mk (ho)
                              clear HO_7
                              clear HO138
                              clear HB
                              clear HR132
                              clear HR145
                              clear HO135
                              have HO_7 := n0_
                              have HO138 := n1_
                              have HB := n2_
                              have HR132 := n3_
                              have HR145 := n4_
                              have HO141 := n5_
                              clear n0_ n1_ n2_ n3_ n4_ n5_
                              clear ho hb hg hat
                              refine hK.out _ _ trivial (fun hHeld => ?_)
                              clear hK K
                              refine norm_ (a' := ?_) ?_ ?_
                              rotate_left
                              · show Act.put _ (some 49) _ = _
                                simp only [Act.put, List.setIfInBounds_toArray, List.set_cons_zero, List.set_cons_succ, i64_w, i32_w]
                                rfl
                              refine one_ (i := 11) (N := some 53) #[true, true, true, true, true, true, true, true, true, true, true, true, false] rfl rfl (one_of HT_.out (by kernel_rfl)) (by decide) (fun K hK => ?_)
                              refine Kd.R_append_rows_step Kd.string (w0 := w) w.heap.size (by rfl) (.tmp 49) (.tmp 52) 30 9 (.string ⟨#[]⟩) 16 rfl Try.underlying30 info9 rfl (by decide) (by omega) v140 y139 y142 _ _ _ (fun k_ => some k_ ≠ (.slice Ao44 t121.length co44 : Value).ownBlock ∧ some k_ ≠ (.slice Ao55 y136.length co55 : Value).ownBlock) (fun _ => False) rfl rfl ?aO ?aR (fun _ _ h => h) (fun _ h => h.elim) ?aF ?aB ?aS ?aL ?_
                              (case aR => repeat (first | exact (by repeat (first | (with_reducible exact HR145.out) | (with_reducible refine Kd.C_alloc ?_ _) | (with_reducible refine Kd.C_drewN ?_ _) | (with_reducible refine Kd.C_drew ?_) | exact HR145.out)) | (with_reducible refine Kd.C_alloc ?_ _) | (with_reducible refine Kd.C_drewN ?_ _) | (with_reducible refine Kd.C_drew ?_)))
                              (case aB => exact (by repeat (first | (with_reducible first | exact HB.out | apply below_alloc | apply pw_below_drewN | apply below_drew1) | exact HB.out)))
                              (case aF => exact (fun k_ hk => ⟨Kd.fresh' (Kd.R_lt (by (with_reducible repeat (first | apply Kd.R_alloc | apply Kd.R_drewN | apply Kd.R_drew)); exact HO_7.out)) k_ hk, Kd.fresh' (Kd.R_lt (by (with_reducible repeat (first | apply Kd.R_alloc | apply Kd.R_drewN | apply Kd.R_drew)); exact HO138.out)) k_ hk⟩))
                              (case aO => exact (by (with_reducible repeat (first | apply Kd.R_alloc | apply Kd.R_drewN | apply Kd.R_drew)); exact HO141.out))
                              (case aS => exact (below_size (by repeat (first | (with_reducible first | exact HB.out | apply below_alloc | apply pw_below_drewN | apply below_drew1) | exact HB.out))))
                              (case aL => have := LMc22.out; omega)
                              intro v147 w56 ho hb hg hat
                              rw [← Ny146.out] at ho
                              have n0_ := Aside0.mk (Kd.R_after (ok := (fun k_ => some k_ ≠ (.slice Ao55 y136.length co55 : Value).ownBlock)) (by (with_reducible repeat (first | apply Kd.R_alloc | apply Kd.R_drewN | apply Kd.R_drew)); exact HO_7.out) hg hat)
                              have n1_ := Aside0.mk (Kd.R_after (ok := (fun k_ => some k_ ≠ (.slice Ao44 t121.length co44 : Value).ownBlock)) (by (with_reducible repeat (first | apply Kd.R_alloc | apply Kd.R_drewN | apply Kd.R_drew)); exact HO138.out) hg hat)
                              have n2_ := Aside0.mk (hb)
                              have n3_ := Aside0.mk ((show Kd.C Kd.string w56 Ao44 y129.length y129 from by rw [Ny129.out]; exact Kd.C_take (m := ((ji15) : Int).toNat) ((Kd.R_reads' (Kd.R_after (ok := (fun k_ => some k_ ≠ (.slice Ao55 y136.length co55 : Value).ownBlock)) (by (with_reducible repeat (first | apply Kd.R_alloc | apply Kd.R_drewN | apply Kd.R_drew)); exact HO_7.out) hg hat)).2.2) KL46.out))
                              have n4_ := Aside0.mk ((show Kd.C Kd.string w56 A47 y142.length y142 from by rw [Ny142.out, KA47.out]; exact Kd.C_drop (m := ((ji15) : Int).toNat) (c := co44) ((Kd.R_reads' (Kd.R_after (ok := (fun k_ => some k_ ≠ (.slice Ao55 y136.length co55 : Value).ownBlock)) (by (with_reducible repeat (first | apply Kd.R_alloc | apply Kd.R_drewN | apply Kd.R_drew)); exact HO_7.out) hg hat)).2.2) KL47.out ((Kd.R_reads' (Kd.R_after (ok := (fun k_ => some k_ ≠ (.slice Ao55 y136.length co55 : Value).ownBlock)) (by (with_reducible repeat (first | apply Kd.R_alloc | apply Kd.R_drewN | apply Kd.R_drew)); exact HO_7.out) hg hat)).2.1)))
                              have n5_ := Aside0.mk (ho)
                              clear HO_7
                              clear HO138
                              clear HB
                              clear HR132
                              clear HR145
                              clear HO141
                              have HO_7 := n0_
                              have HO138 := n1_
                              have HB := n2_
                              have HR132 := n3_
                              have HR145 := n4_
                              have HO148 := n5_
                              clear n0_ n1_ n2_ n3_ n4_ n5_
                              clear ho hb hg hat
                              refine hK.out _ _ trivial (fun hHeld => ?_)
                              clear hK K
                              refine norm_ (a' := ?_) ?_ ?_
                              rotate_left
                              · show Act.put _ (some 53) _ = _
                                simp only [Act.put, List.setIfInBounds_toArray, List.set_cons_zero, List.set_cons_succ, i64_w, i32_w]
                                rfl
                              refine pure_ (i := 12) (N := some 10) (v := ?_) (a' := ?_) #[true, true, true, true, true, true, true, true, true, true, true, true, true] rfl rfl (any_of HT_.out (by kernel_rfl)) (fun _ _ _ h => h) (Or.inl ⟨by rfl, ?_⟩) ?_ ?_
                              rotate_left
                              · intro w'
                                go_simp
                                with_reducible rfl
                              rotate_left
                              · simp only [Act.put, List.setIfInBounds_toArray, List.set_cons_zero, List.set_cons_succ, i64_w, i32_w]
                                rfl
                              refine done_ (done_of HT_.out (by kernel_rfl)) ?_
                              obtain ⟨Ao57, co57, eo57⟩ := Kd.R_slice HO148.out
                              subst eo57
                              try go_wp2_with (first | ((with_reducible refine gate_callee (f := 16) rfl ?_); refine goesL_ (some 55) rfl rfl Try.func16 (by kernel_rfl) rfl #[.slice Ao57 y146.length co57, .string (⟨#[]⟩ : ByteArray)] rfl (by (try simp only [List.map_toArray, List.map_cons, List.map_nil]); first | done | rfl | (simp only [List.length_drop, List.length_take]; rfl)) ?_; (with_reducible refine (spec_Joined.calls kj7 _ _ y146 (⟨#[]⟩ : ByteArray) t149 _ ?side1 ?side2 A23.out).mono ?_); (case side1 => repeat (first | exact (Kd.R_reads' HO148.out).2.2 | (with_reducible refine Kd.C_alloc ?_ _) | (with_reducible refine Kd.C_drewN ?_ _) | (with_reducible refine Kd.C_drew ?_))); (case side2 => exact (Kd.R_reads' HO148.out).2.1); rintro e w' ⟨rfl, ⟨nd, rfl⟩⟩; refine ⟨_, rfl, ?_⟩) | ((with_reducible refine gate_callee (f := 10) rfl ?_); refine goesL_ (some 61) rfl rfl Try.func10 (by kernel_rfl) rfl #[.string t149] rfl (by (try simp only [List.map_toArray, List.map_cons, List.map_nil]); first | done | rfl | (simp only [List.length_drop, List.length_take]; rfl)) ?_; (with_reducible refine (impl_SgParse.calls kj7 t149 t150 false _ A25.out).mono ?_); rintro e w58 ⟨rfl, hb⟩; refine ⟨_, rfl, ?_⟩; have n0_ := Aside0.mk (Kd.R_below (by (with_reducible repeat (first | apply Kd.R_alloc | apply Kd.R_drewN | apply Kd.R_drew)); exact HO_7.out) hb); have n1_ := Aside0.mk (Kd.R_below (by (with_reducible repeat (first | apply Kd.R_alloc | apply Kd.R_drewN | apply Kd.R_drew)); exact HO138.out) hb); have n2_ := Aside0.mk (Kd.R_below (by (with_reducible repeat (first | apply Kd.R_alloc | apply Kd.R_drewN | apply Kd.R_drew)); exact HO148.out) hb); have n3_ := Aside0.mk (Kd.C_below (by repeat (first | (with_reducible exact HR132.out) | (with_reducible refine Kd.C_alloc ?_ _) | (with_reducible refine Kd.C_drewN ?_ _) | (with_reducible refine Kd.C_drew ?_) | exact HR132.out)) hb); have n4_ := Aside0.mk (Kd.C_below (by repeat (first | (with_reducible exact HR145.out) | (with_reducible refine Kd.C_alloc ?_ _) | (with_reducible refine Kd.C_drewN ?_ _) | (with_reducible refine Kd.C_drew ?_) | exact HR145.out)) hb); have n5_ := Aside0.mk (below_step (by repeat (first | (with_reducible first | exact HB.out | apply below_alloc | apply pw_below_drewN | apply below_drew1) | exact HB.out)) hb); clear HO_7; clear HO138; clear HO148; clear HR132; clear HR145; clear HB; have HO_7 := n0_; have HO138 := n1_; have HO148 := n2_; have HR132 := n3_; have HR145 := n4_; have HB := n5_; clear n0_ n1_ n2_ n3_ n4_ n5_; (try clear hb); (try clear hb2); (try clear hk); (try clear hi)) | ((with_reducible refine gate_callee (f := 10) rfl ?_); refine goesL_ (some 65) rfl rfl Try.func10 (by kernel_rfl) rfl #[.string (⟨#[121]⟩ : ByteArray)] rfl (by (try simp only [List.map_toArray, List.map_cons, List.map_nil]); first | done | rfl | (simp only [List.length_drop, List.length_take]; rfl)) ?_; (with_reducible refine (impl_SgParse.calls kj7 (⟨#[121]⟩ : ByteArray) t152 t153 _ A26.out).mono ?_); rintro e w59 ⟨rfl, hb⟩; refine ⟨_, rfl, ?_⟩; have n0_ := Aside0.mk (Kd.R_below (by (with_reducible repeat (first | apply Kd.R_alloc | apply Kd.R_drewN | apply Kd.R_drew)); exact HO_7.out) hb); have n1_ := Aside0.mk (Kd.R_below (by (with_reducible repeat (first | apply Kd.R_alloc | apply Kd.R_drewN | apply Kd.R_drew)); exact HO138.out) hb); have n2_ := Aside0.mk (Kd.R_below (by (with_reducible repeat (first | apply Kd.R_alloc | apply Kd.R_drewN | apply Kd.R_drew)); exact HO148.out) hb); have n3_ := Aside0.mk (Kd.C_below (by repeat (first | (with_reducible exact HR132.out) | (with_reducible refine Kd.C_alloc ?_ _) | (with_reducible refine Kd.C_drewN ?_ _) | (with_reducible refine Kd.C_drew ?_) | exact HR132.out)) hb); have n4_ := Aside0.mk (Kd.C_below (by repeat (first | (with_reducible exact HR145.out) | (with_reducible refine Kd.C_alloc ?_ _) | (with_reducible refine Kd.C_drewN ?_ _) | (with_reducible refine Kd.C_drew ?_) | exact HR145.out)) hb); have n5_ := Aside0.mk (below_step (by repeat (first | (with_reducible first | exact HB.out | apply below_alloc | apply pw_below_drewN | apply below_drew1) | exact HB.out)) hb); clear HO_7; clear HO138; clear HO148; clear HR132; clear HR145; clear HB; have HO_7 := n0_; have HO138 := n1_; have HO148 := n2_; have HR132 := n3_; have HR145 := n4_; have HB := n5_; clear n0_ n1_ n2_ n3_ n4_ n5_; (try clear hb); (try clear hb2); (try clear hk); (try clear hi)))
                              go_ret
                              exact ⟨by first | rfl | (simp [errW_none, errW_some] <;> rfl) | (simp only [← hji15]; first | rfl | (simp [errW_none, errW_some] <;> rfl)) | (simp [*, errW_none, errW_some] <;> rfl), by repeat (first | (with_reducible first | exact HB.out | apply below_alloc | apply pw_below_drewN | apply below_drew1) | exact HB.out)⟩
                          · rw [if_neg c24] at H
                            have c24b0 : decide (255 < (t149.size : Int)) = false := decide_eq_false c24
                            have c24b1 : decide (255 < t149.size) = false := decide_eq_false (by omega)
                            clear c24
                            replace H := Option.bind_eq_some_iff.mp H
                            obtain ⟨t154, A600, H⟩ := H
                            replace H : (some t154) = some r := H
                            have A60 := Aside0.mk A600
                            clear A600
                            obtain rfl := Option.some.inj H
                            obtain ⟨Ao61, co61, eo61⟩ := Kd.R_slice HO_7.out
                            subst eo61
                            try go_wp2
                            have n0_ := Aside0.mk (Kd.R_drew HO_7.out)
                            have n1_ := Aside0.mk (below_drew1 HB.out)
                            clear HO_7
                            clear HB
                            have HO_7 := n0_
                            have HB := n1_
                            clear n0_ n1_
                            have q63 : ((ji15) : Int) ≤ ((t121.length : Int) : Int) := of_decide_eq_true (by first | (with_reducible assumption) | assumption)
                            obtain ⟨i063, hi063, _, hsz63, _⟩ := info_parts info9
                            have hroom63 : t121.length ≤ co61 := (Kd.R_reads' HO_7.out).2.1
                            have hC63 : Kd.C Kd.string _ Ao61 t121.length t121 := (Kd.R_reads' HO_7.out).2.2
                            have hcut63 := cut_to (P := Try.prog) 30 9 .i64 Try.underlying30 hi063 Ao61 t121.length co61 (ji15) (of_decide_eq_true (by first | (with_reducible assumption) | assumption)) q63 hroom63
                            have hr63 := Kd.C_take (m := ((ji15) : Int).toNat) hC63 (by omega)
                            have hy63 : y129.length = ((ji15) : Int).toNat := (by rw [Ny129.out, List.length_take]; omega)
                            rw [← Ny129.out] at hr63
                            rw [← hy63] at hcut63
                            have HR132 := Aside0.mk hr63
                            have HC132 := Aside0.mk (show y129.length ≤ co61 from by omega)
                            clear hr63 hC63 hroom63 hi063 hsz63
                            have KY63 := Aside0.mk hy63
                            clear hy63
                            have KL63 := Aside0.mk (show ((ji15) : Int).toNat ≤ t121.length from by omega)
                            replace q63 := eq_true q63
                            have q64 : ((ji15) : Int) ≤ ((t121.length : Int) : Int) := of_decide_eq_true (by first | (with_reducible assumption) | assumption)
                            obtain ⟨i064, hi064, _, hsz64, _⟩ := info_parts info9
                            have hroom64 : t121.length ≤ co61 := (Kd.R_reads' HO_7.out).2.1
                            have hC64 : Kd.C Kd.string _ Ao61 t121.length t121 := (Kd.R_reads' HO_7.out).2.2
                            have q064 : (0 : Int) ≤ ((ji15) : Int) := of_decide_eq_true (by first | (with_reducible assumption) | assumption)
                            have hcut64 := cut_from (P := Try.prog) 30 9 .i64 Try.underlying30 hi064 1 hsz64 Ao61 t121.length co61 (ji15) q064 q64
                            have hr64 := Kd.C_drop (m := ((ji15) : Int).toNat) (c := co61) hC64 (by omega) hroom64
                            obtain ⟨A64, hA64⟩ : ∃ A1, A1 = (if co61 = ((ji15) : Int).toNat then Ao61 else (Ao61 : Option Addr).map (·.add (((ji15) : Int).toNat * 1))) := ⟨_, rfl⟩
                            obtain ⟨c64, hc64⟩ : ∃ c1, c1 = co61 - ((ji15) : Int).toNat := ⟨_, rfl⟩
                            have hy64 : y142.length = t121.length - ((ji15) : Int).toNat := (by rw [Ny142.out, List.length_drop] <;> omega)
                            rw [show (t121).drop ((ji15) : Int).toNat = y142 from Ny142.out.symm] at hr64
                            replace hr64 : Kd.C Kd.string _ A64 y142.length y142 := (by rw [hA64]; exact hr64)
                            rw [← hy64, ← hA64, ← hc64] at hcut64
                            have HR145 := Aside0.mk hr64
                            have HC145 := Aside0.mk (show y142.length ≤ c64 from by rw [hy64, hc64]; exact Nat.sub_le_sub_right hroom64 _)
                            clear hr64 hC64 hroom64 hi064 hsz64 hc64
                            have KY64 := Aside0.mk hy64
                            have KA64 := Aside0.mk hA64
                            clear hy64 hA64
                            have KL64 := Aside0.mk (show ((ji15) : Int).toNat ≤ t121.length from by omega)
                            replace q64 := eq_true q64
                            refine start_ (n := 13) (S := fun w' => True) (ds := []) #[false, false, false, false, false, false, false, false, false, false, false, false, false] (by kernel_rfl) rfl rfl trivial (fun hHeld => ?_); refine with_tabW laws_FnSgInsert.tab7 laws_FnSgInsert.bits7 (fun HT_ HW_ => ?_)
                            generalize wc.drew = w62 at HO_7 HB HR132 HR145 hHeld ⊢
                            refine pure_ (i := 1) (N := some 43) (v := ?_) (a' := ?_) #[false, true, false, false, false, false, false, false, false, false, false, false, false] rfl rfl (any_of HT_.out (by kernel_rfl)) (fun _ _ _ h => h) (Or.inl ⟨by rfl, ?_⟩) ?_ ?_
                            rotate_left
                            · intro w'
                              go_simp
                              with_reducible rfl
                            rotate_left
                            · simp only [Act.put, List.setIfInBounds_toArray, List.set_cons_zero, List.set_cons_succ, i64_w, i32_w]
                              rfl
                            refine pure_ (i := 2) (N := some 44) (v := ?_) (a' := ?_) #[false, true, true, false, false, false, false, false, false, false, false, false, false] rfl rfl (any_of HT_.out (by kernel_rfl)) (fun _ _ _ h => h) (Or.inl ⟨by rfl, ?_⟩) ?_ ?_
                            rotate_left
                            · intro w'
                              go_simp
                              with_reducible rfl
                            rotate_left
                            · simp only [Act.put, List.setIfInBounds_toArray, List.set_cons_zero, List.set_cons_succ, i64_w, i32_w]
                              rfl
                            refine pure_ (i := 3) (N := some 45) (v := ?_) (a' := ?_) #[false, true, true, true, false, false, false, false, false, false, false, false, false] rfl rfl (any_of HT_.out (by kernel_rfl)) (fun _ _ _ h => h) (Or.inl ⟨by rfl, ?_⟩) ?_ ?_
                            rotate_left
                            · intro w'
                              go_simp
                              with_reducible rfl
                            rotate_left
                            · simp only [Act.put, List.setIfInBounds_toArray, List.set_cons_zero, List.set_cons_succ, i64_w, i32_w]
                              rfl
                            refine pure_ (i := 5) (N := some 47) (v := ?_) (a' := ?_) #[false, true, true, true, false, true, false, false, false, false, false, false, false] rfl rfl (any_of HT_.out (by kernel_rfl)) (fun _ _ _ h => h) (Or.inl ⟨by rfl, ?_⟩) ?_ ?_
                            rotate_left
                            · intro w'
                              go_simp
                              with_reducible rfl
                            rotate_left
                            · simp only [Act.put, List.setIfInBounds_toArray, List.set_cons_zero, List.set_cons_succ, i64_w, i32_w]
                              rfl
                            refine pure_ (i := 8) (N := some 50) (v := ?_) (a' := ?_) #[false, true, true, true, false, true, false, false, true, false, false, false, false] rfl rfl (any_of HT_.out (by kernel_rfl)) (fun _ _ _ h => h) (Or.inl ⟨by rfl, ?_⟩) ?_ ?_
                            rotate_left
                            · intro w'
                              go_simp
                              with_reducible rfl
                            rotate_left
                            · simp only [Act.put, List.setIfInBounds_toArray, List.set_cons_zero, List.set_cons_succ, i64_w, i32_w]
                              rfl
                            refine pure_ (i := 9) (N := some 51) (v := ?_) (a' := ?_) #[false, true, true, true, false, true, false, false, true, true, false, false, false] rfl rfl (any_of HT_.out (by kernel_rfl)) (fun _ _ _ h => h) (Or.inl ⟨by rfl, ?_⟩) ?_ ?_
                            rotate_left
                            · intro w'
                              go_simp
                              with_reducible rfl
                            rotate_left
                            · simp only [Act.put, List.setIfInBounds_toArray, List.set_cons_zero, List.set_cons_succ, i64_w, i32_w]
                              rfl
                            refine pure_ (i := 10) (N := some 52) (v := ?_) (a' := ?_) #[false, true, true, true, false, true, false, false, true, true, true, false, false] rfl rfl (any_of HT_.out (by kernel_rfl)) (fun _ _ _ h => h) (Or.inl ⟨by rfl, ?_⟩) ?_ ?_
                            rotate_left
                            · intro w'
                              go_simp
                              with_reducible rfl
                            rotate_left
                            · simp only [Act.put, List.setIfInBounds_toArray, List.set_cons_zero, List.set_cons_succ, i64_w, i32_w]
                              rfl
                            refine join_ (σ := Value × Value × Value) 3 #[true, true, true, true, true, true, true, false, true, true, true, false, false] (fun s_ => [(42, s_.1), (46, s_.2.1), (48, s_.2.2)]) (fun s_ w' => (Kd.R Kd.string 9 w' w.heap.size (fun k_ => some k_ ≠ (s_.2.2 : Value).ownBlock ∧ some k_ ≠ (.slice Ao61 t121.length co61 : Value).ownBlock) s_.2.1 y133) ∧ (Kd.R Kd.string 9 w' w.heap.size (fun k_ => some k_ ≠ (s_.2.1 : Value).ownBlock ∧ some k_ ≠ (.slice Ao61 t121.length co61 : Value).ownBlock) s_.2.2 y136) ∧ (Kd.R Kd.string 9 w' w.heap.size (fun k_ => some k_ ≠ (s_.2.1 : Value).ownBlock ∧ some k_ ≠ (s_.2.2 : Value).ownBlock) (.slice Ao61 t121.length co61) t121) ∧ (Below w.heap.size w w')) ?_ ?_
                            rotate_left
                            · intro hCont
                              refine two_ (i := 0) (j := 6) (Ni := some 42) (Nj := some 48) #[true, true, true, true, false, true, false, false, true, true, true, false, false] #[false, true, true, true, false, true, true, false, true, true, true, false, false] rfl rfl rfl rfl (two_of HT_.out (by kernel_rfl)) (by decide) (by decide) (fun K hK => ?_) (fun K hK => ?_)
                              · skip
                                refine Kd.R_lit_step Kd.string _ 9 ?hg (N := 42) ?hd (xs := ([] : List ByteArray)) (inner := []) (ok := fun _ => True) (okp := fun _ => True) ?hr ?hp (fun _ hk => hk) trivial (Below.refl _ _) (Nat.le_refl _) (by simp) ?_; (case hd => rfl); (case hg => rfl); (case hr => first | (go_simp; done) | (go_simp; rfl)); (case hp => exact (Reps.none _ _))
                                intro v127 w65 ho66 hb hg_ hnew_
                                clear hg_ hnew_
                                (first | rw [← Ny126.out] at ho66 | (simp only [Int.reduceToNat] at ho66; rw [← Ny126.out] at ho66))
                                have n0_ := Aside0.mk (Kd.R_elder' (by (with_reducible repeat (first | apply Kd.R_alloc | apply Kd.R_drewN | apply Kd.R_drew)); exact HO_7.out) (Kd.R_base ho66) hb)
                                have n1_ := Aside0.mk (Kd.R_lower (Kd.R_new' ho66 (Kd.R_lt (by (with_reducible repeat (first | apply Kd.R_alloc | apply Kd.R_drewN | apply Kd.R_drew)); exact HO_7.out))) (below_size (by repeat (first | (with_reducible first | exact HB.out | apply below_alloc | apply pw_below_drewN | apply below_drew1) | exact HB.out))))
                                have n2_ := Aside0.mk (Kd.C_below (by repeat (first | (with_reducible exact HR132.out) | (with_reducible refine Kd.C_alloc ?_ _) | (with_reducible refine Kd.C_drewN ?_ _) | (with_reducible refine Kd.C_drew ?_) | exact HR132.out)) hb)
                                have n3_ := Aside0.mk (Kd.C_below (by repeat (first | (with_reducible exact HR145.out) | (with_reducible refine Kd.C_alloc ?_ _) | (with_reducible refine Kd.C_drewN ?_ _) | (with_reducible refine Kd.C_drew ?_) | exact HR145.out)) hb)
                                have n4_ := Aside0.mk (below_step (by repeat (first | (with_reducible first | exact HB.out | apply below_alloc | apply pw_below_drewN | apply below_drew1) | exact HB.out)) hb)
                                clear HO_7
                                clear HR132
                                clear HR145
                                clear HB
                                have HO_7 := n0_
                                have HO128 := n1_
                                have HR132 := n2_
                                have HR145 := n3_
                                have HB := n4_
                                clear n0_ n1_ n2_ n3_ n4_
                                clear hb ho66
                                refine hK.out _ _ trivial (fun hHeld => ?_)
                                clear hK K
                                refine norm_ (a' := ?_) ?_ ?_
                                rotate_left
                                · show Act.put _ (some 42) _ = _
                                  simp only [Act.put, List.setIfInBounds_toArray, List.set_cons_zero, List.set_cons_succ, i64_w, i32_w]
                                  rfl
                                refine two_ (i := 4) (j := 6) (Ni := some 46) (Nj := some 48) #[true, true, true, true, true, true, false, false, true, true, true, false, false] #[true, true, true, true, false, true, true, false, true, true, true, false, false] rfl rfl rfl rfl (two_of HT_.out (by kernel_rfl)) (by decide) (by decide) (fun K hK => ?_) (fun K hK => ?_)
                                · skip
                                  refine Kd.R_append_rows_step Kd.string (w0 := w) w.heap.size (by rfl) (.tmp 42) (.tmp 45) 30 9 (.string ⟨#[]⟩) 16 rfl Try.underlying30 info9 rfl (by decide) (by omega) v127 y126 y129 _ _ _ (fun k_ => some k_ ≠ (.slice Ao61 t121.length co61 : Value).ownBlock) (fun _ => False) rfl rfl ?aO ?aR (fun _ _ h => h) (fun _ h => h.elim) ?aF ?aB ?aS ?aL ?_
                                  (case aR => repeat (first | exact (by repeat (first | (with_reducible exact HR132.out) | (with_reducible refine Kd.C_alloc ?_ _) | (with_reducible refine Kd.C_drewN ?_ _) | (with_reducible refine Kd.C_drew ?_) | exact HR132.out)) | (with_reducible refine Kd.C_alloc ?_ _) | (with_reducible refine Kd.C_drewN ?_ _) | (with_reducible refine Kd.C_drew ?_)))
                                  (case aB => exact (by repeat (first | (with_reducible first | exact HB.out | apply below_alloc | apply pw_below_drewN | apply below_drew1) | exact HB.out)))
                                  (case aF => exact (fun k_ hk => Kd.fresh' (Kd.R_lt (by (with_reducible repeat (first | apply Kd.R_alloc | apply Kd.R_drewN | apply Kd.R_drew)); exact HO_7.out)) k_ hk))
                                  (case aO => exact (by (with_reducible repeat (first | apply Kd.R_alloc | apply Kd.R_drewN | apply Kd.R_drew)); exact Kd.R_mono HO128.out (fun _ hk => hk.2)))
                                  (case aS => exact (below_size (by repeat (first | (with_reducible first | exact HB.out | apply below_alloc | apply pw_below_drewN | apply below_drew1) | exact HB.out))))
                                  (case aL => have := LMc18.out; omega)
                                  intro v134 w67 ho hb hg hat
                                  rw [← Ny133.out] at ho
                                  have n0_ := Aside0.mk (Kd.R_after (ok := (fun _ => True)) (by (with_reducible repeat (first | apply Kd.R_alloc | apply Kd.R_drewN | apply Kd.R_drew)); exact HO_7.out) hg hat)
                                  have n1_ := Aside0.mk (hb)
                                  have n2_ := Aside0.mk ((show Kd.C Kd.string w67 Ao61 y129.length y129 from by rw [Ny129.out]; exact Kd.C_take (m := ((ji15) : Int).toNat) ((Kd.R_reads' (Kd.R_after (ok := (fun _ => True)) (by (with_reducible repeat (first | apply Kd.R_alloc | apply Kd.R_drewN | apply Kd.R_drew)); exact HO_7.out) hg hat)).2.2) KL63.out))
                                  have n3_ := Aside0.mk ((show Kd.C Kd.string w67 A64 y142.length y142 from by rw [Ny142.out, KA64.out]; exact Kd.C_drop (m := ((ji15) : Int).toNat) (c := co61) ((Kd.R_reads' (Kd.R_after (ok := (fun _ => True)) (by (with_reducible repeat (first | apply Kd.R_alloc | apply Kd.R_drewN | apply Kd.R_drew)); exact HO_7.out) hg hat)).2.2) KL64.out ((Kd.R_reads' (Kd.R_after (ok := (fun _ => True)) (by (with_reducible repeat (first | apply Kd.R_alloc | apply Kd.R_drewN | apply Kd.R_drew)); exact HO_7.out) hg hat)).2.1)))
                                  have n4_ := Aside0.mk (ho)
                                  clear HO_7
                                  clear HB
                                  clear HR132
                                  clear HR145
                                  clear HO128
                                  have HO_7 := n0_
                                  have HB := n1_
                                  have HR132 := n2_
                                  have HR145 := n3_
                                  have HO135 := n4_
                                  clear n0_ n1_ n2_ n3_ n4_
                                  clear ho hb hg hat
                                  refine hK.out _ _ trivial (fun hHeld => ?_)
                                  clear hK K
                                  refine norm_ (a' := ?_) ?_ ?_
                                  rotate_left
                                  · show Act.put _ (some 46) _ = _
                                    simp only [Act.put, List.setIfInBounds_toArray, List.set_cons_zero, List.set_cons_succ, i64_w, i32_w]
                                    rfl
                                  refine one_ (i := 6) (N := some 48) #[true, true, true, true, true, true, true, false, true, true, true, false, false] rfl rfl (one_of HT_.out (by kernel_rfl)) (by decide) (fun K hK => ?_)
                                  refine Kd.R_lit_step Kd.string _ 9 ?hg (N := 48) ?hd (xs := ([a1] : List ByteArray)) (inner := [.string a1]) (ok := fun _ => True) (okp := fun _ => True) ?hr ?hp (fun _ hk => hk) trivial (Below.refl _ _) (Nat.le_refl _) (by simp) ?_; (case hd => rfl); (case hg => rfl); (case hr => first | (go_simp; done) | (go_simp; rfl)); (case hp => exact (Reps.one (show Kd.M Kd.string _ _ _ a1 [.string a1] from rfl) (Reps.none _ _)))
                                  intro v137 w68 ho69 hb hg_ hnew_
                                  clear hg_ hnew_
                                  (first | rw [← Ny136.out] at ho69 | (simp only [Int.reduceToNat] at ho69; rw [← Ny136.out] at ho69))
                                  have n0_ := Aside0.mk (Kd.R_elder' (by (with_reducible repeat (first | apply Kd.R_alloc | apply Kd.R_drewN | apply Kd.R_drew)); exact HO_7.out) (Kd.R_base ho69) hb)
                                  have n1_ := Aside0.mk (Kd.R_elder' (by (with_reducible repeat (first | apply Kd.R_alloc | apply Kd.R_drewN | apply Kd.R_drew)); exact HO135.out) (Kd.R_base ho69) hb)
                                  have n2_ := Aside0.mk (Kd.R_lower (Kd.R_new' (Kd.R_new' ho69 (Kd.R_lt (by (with_reducible repeat (first | apply Kd.R_alloc | apply Kd.R_drewN | apply Kd.R_drew)); exact HO_7.out))) (Kd.R_lt (by (with_reducible repeat (first | apply Kd.R_alloc | apply Kd.R_drewN | apply Kd.R_drew)); exact HO135.out))) (below_size (by repeat (first | (with_reducible first | exact HB.out | apply below_alloc | apply pw_below_drewN | apply below_drew1) | exact HB.out))))
                                  have n3_ := Aside0.mk (Kd.C_below (by repeat (first | (with_reducible exact HR132.out) | (with_reducible refine Kd.C_alloc ?_ _) | (with_reducible refine Kd.C_drewN ?_ _) | (with_reducible refine Kd.C_drew ?_) | exact HR132.out)) hb)
                                  have n4_ := Aside0.mk (Kd.C_below (by repeat (first | (with_reducible exact HR145.out) | (with_reducible refine Kd.C_alloc ?_ _) | (with_reducible refine Kd.C_drewN ?_ _) | (with_reducible refine Kd.C_drew ?_) | exact HR145.out)) hb)
                                  have n5_ := Aside0.mk (below_step (by repeat (first | (with_reducible first | exact HB.out | apply below_alloc | apply pw_below_drewN | apply below_drew1) | exact HB.out)) hb)
                                  clear HO_7
                                  clear HO135
                                  clear HR132
                                  clear HR145
                                  clear HB
                                  have HO_7 := n0_
                                  have HO135 := n1_
                                  have HO138 := n2_
                                  have HR132 := n3_
                                  have HR145 := n4_
                                  have HB := n5_
                                  clear n0_ n1_ n2_ n3_ n4_ n5_
                                  clear hb ho69
                                  refine hK.out _ _ trivial (fun hHeld => ?_)
                                  clear hK K
                                  refine norm_ (a' := ?_) ?_ ?_
                                  rotate_left
                                  · show Act.put _ (some 48) _ = _
                                    simp only [Act.put, List.setIfInBounds_toArray, List.set_cons_zero, List.set_cons_succ, i64_w, i32_w]
                                    rfl
                                  exact norm_ (by simp only [putAll, Act.put, List.setIfInBounds_toArray, List.set_cons_zero, List.set_cons_succ]) (hCont (v127, v134, v137) _ ⟨(by (with_reducible repeat (first | apply Kd.R_alloc | apply Kd.R_drewN | apply Kd.R_drew)); exact Kd.R_mono HO135.out (fun _ hk => ⟨hk.2, hk.1⟩)), (by (with_reducible repeat (first | apply Kd.R_alloc | apply Kd.R_drewN | apply Kd.R_drew)); exact Kd.R_mono HO138.out (fun _ hk => ⟨hk.2, hk.1.2⟩)), (by (with_reducible repeat (first | apply Kd.R_alloc | apply Kd.R_drewN | apply Kd.R_drew)); exact Kd.R_mono HO_7.out (fun _ hk => ⟨hk.1.2, hk.2⟩)), (by repeat (first | (with_reducible first | exact HB.out | apply below_alloc | apply pw_below_drewN | apply below_drew1) | exact HB.out))⟩)
                                · skip
                                  refine Kd.R_lit_step Kd.string _ 9 ?hg (N := 48) ?hd (xs := ([a1] : List ByteArray)) (inner := [.string a1]) (ok := fun _ => True) (okp := fun _ => True) ?hr ?hp (fun _ hk => hk) trivial (Below.refl _ _) (Nat.le_refl _) (by simp) ?_; (case hd => rfl); (case hg => rfl); (case hr => first | (go_simp; done) | (go_simp; rfl)); (case hp => exact (Reps.one (show Kd.M Kd.string _ _ _ a1 [.string a1] from rfl) (Reps.none _ _)))
                                  intro v137 w67 ho68 hb hg_ hnew_
                                  clear hg_ hnew_
                                  (first | rw [← Ny136.out] at ho68 | (simp only [Int.reduceToNat] at ho68; rw [← Ny136.out] at ho68))
                                  have n0_ := Aside0.mk (Kd.R_elder' (by (with_reducible repeat (first | apply Kd.R_alloc | apply Kd.R_drewN | apply Kd.R_drew)); exact HO_7.out) (Kd.R_base ho68) hb)
                                  have n1_ := Aside0.mk (Kd.R_elder' (by (with_reducible repeat (first | apply Kd.R_alloc | apply Kd.R_drewN | apply Kd.R_drew)); exact HO128.out) (Kd.R_base ho68) hb)
                                  have n2_ := Aside0.mk (Kd.R_lower (Kd.R_new' (Kd.R_new' ho68 (Kd.R_lt (by (with_reducible repeat (first | apply Kd.R_alloc | apply Kd.R_drewN | apply Kd.R_drew)); exact HO_7.out))) (Kd.R_lt (by (with_reducible repeat (first | apply Kd.R_alloc | apply Kd.R_drewN | apply Kd.R_drew)); exact HO128.out))) (below_size (by repeat (first | (with_reducible first | exact HB.out | apply below_alloc | apply pw_below_drewN | apply below_drew1) | exact HB.out))))
                                  have n3_ := Aside0.mk (Kd.C_below (by repeat (first | (with_reducible exact HR132.out) | (with_reducible refine Kd.C_alloc ?_ _) | (with_reducible refine Kd.C_drewN ?_ _) | (with_reducible refine Kd.C_drew ?_) | exact HR132.out)) hb)
                                  have n4_ := Aside0.mk (Kd.C_below (by repeat (first | (with_reducible exact HR145.out) | (with_reducible refine Kd.C_alloc ?_ _) | (with_reducible refine Kd.C_drewN ?_ _) | (with_reducible refine Kd.C_drew ?_) | exact HR145.out)) hb)
                                  have n5_ := Aside0.mk (below_step (by repeat (first | (with_reducible first | exact HB.out | apply below_alloc | apply pw_below_drewN | apply below_drew1) | exact HB.out)) hb)
                                  clear HO_7
                                  clear HO128
                                  clear HR132
                                  clear HR145
                                  clear HB
                                  have HO_7 := n0_
                                  have HO128 := n1_
                                  have HO138 := n2_
                                  have HR132 := n3_
                                  have HR145 := n4_
                                  have HB := n5_
                                  clear n0_ n1_ n2_ n3_ n4_ n5_
                                  clear hb ho68
                                  refine hK.out _ _ trivial (fun hHeld => ?_)
                                  clear hK K
                                  refine norm_ (a' := ?_) ?_ ?_
                                  rotate_left
                                  · show Act.put _ (some 48) _ = _
                                    simp only [Act.put, List.setIfInBounds_toArray, List.set_cons_zero, List.set_cons_succ, i64_w, i32_w]
                                    rfl
                                  refine one_ (i := 4) (N := some 46) #[true, true, true, true, true, true, true, false, true, true, true, false, false] rfl rfl (one_of HT_.out (by kernel_rfl)) (by decide) (fun K hK => ?_)
                                  refine Kd.R_append_rows_step Kd.string (w0 := w) w.heap.size (by rfl) (.tmp 42) (.tmp 45) 30 9 (.string ⟨#[]⟩) 16 rfl Try.underlying30 info9 rfl (by decide) (by omega) v127 y126 y129 _ _ _ (fun k_ => some k_ ≠ (.slice Ao61 t121.length co61 : Value).ownBlock ∧ some k_ ≠ (v137 : Value).ownBlock) (fun _ => False) rfl rfl ?aO ?aR (fun _ _ h => h) (fun _ h => h.elim) ?aF ?aB ?aS ?aL ?_
                                  (case aR => repeat (first | exact (by repeat (first | (with_reducible exact HR132.out) | (with_reducible refine Kd.C_alloc ?_ _) | (with_reducible refine Kd.C_drewN ?_ _) | (with_reducible refine Kd.C_drew ?_) | exact HR132.out)) | (with_reducible refine Kd.C_alloc ?_ _) | (with_reducible refine Kd.C_drewN ?_ _) | (with_reducible refine Kd.C_drew ?_)))
                                  (case aB => exact (by repeat (first | (with_reducible first | exact HB.out | apply below_alloc | apply pw_below_drewN | apply below_drew1) | exact HB.out)))
                                  (case aF => exact (fun k_ hk => ⟨Kd.fresh' (Kd.R_lt (by (with_reducible repeat (first | apply Kd.R_alloc | apply Kd.R_drewN | apply Kd.R_drew)); exact HO_7.out)) k_ hk, Kd.fresh' (Kd.R_lt (by (with_reducible repeat (first | apply Kd.R_alloc | apply Kd.R_drewN | apply Kd.R_drew)); exact HO138.out)) k_ hk⟩))
                                  (case aO => exact (by (with_reducible repeat (first | apply Kd.R_alloc | apply Kd.R_drewN | apply Kd.R_drew)); exact Kd.R_mono HO128.out (fun _ hk => ⟨hk.1.2, hk.2⟩)))
                                  (case aS => exact (below_size (by repeat (first | (with_reducible first | exact HB.out | apply below_alloc | apply pw_below_drewN | apply below_drew1) | exact HB.out))))
                                  (case aL => have := LMc18.out; omega)
                                  intro v134 w69 ho hb hg hat
                                  rw [← Ny133.out] at ho
                                  have n0_ := Aside0.mk (Kd.R_after (ok := (fun k_ => some k_ ≠ (v137 : Value).ownBlock)) (by (with_reducible repeat (first | apply Kd.R_alloc | apply Kd.R_drewN | apply Kd.R_drew)); exact Kd.R_mono HO_7.out (fun _ hk => ⟨hk.2, hk.1.2⟩)) hg hat)
                                  have n1_ := Aside0.mk (Kd.R_after (ok := (fun k_ => some k_ ≠ (.slice Ao61 t121.length co61 : Value).ownBlock)) (by (with_reducible repeat (first | apply Kd.R_alloc | apply Kd.R_drewN | apply Kd.R_drew)); exact Kd.R_mono HO138.out (fun _ hk => ⟨hk.1.2, hk.2⟩)) hg hat)
                                  have n2_ := Aside0.mk (hb)
                                  have n3_ := Aside0.mk ((show Kd.C Kd.string w69 Ao61 y129.length y129 from by rw [Ny129.out]; exact Kd.C_take (m := ((ji15) : Int).toNat) ((Kd.R_reads' (Kd.R_after (ok := (fun k_ => some k_ ≠ (v137 : Value).ownBlock)) (by (with_reducible repeat (first | apply Kd.R_alloc | apply Kd.R_drewN | apply Kd.R_drew)); exact Kd.R_mono HO_7.out (fun _ hk => ⟨hk.2, hk.1.2⟩)) hg hat)).2.2) KL63.out))
                                  have n4_ := Aside0.mk ((show Kd.C Kd.string w69 A64 y142.length y142 from by rw [Ny142.out, KA64.out]; exact Kd.C_drop (m := ((ji15) : Int).toNat) (c := co61) ((Kd.R_reads' (Kd.R_after (ok := (fun k_ => some k_ ≠ (v137 : Value).ownBlock)) (by (with_reducible repeat (first | apply Kd.R_alloc | apply Kd.R_drewN | apply Kd.R_drew)); exact Kd.R_mono HO_7.out (fun _ hk => ⟨hk.2, hk.1.2⟩)) hg hat)).2.2) KL64.out ((Kd.R_reads' (Kd.R_after (ok := (fun k_ => some k_ ≠ (v137 : Value).ownBlock)) (by (with_reducible repeat (first | apply Kd.R_alloc | apply Kd.R_drewN | apply Kd.R_drew)); exact Kd.R_mono HO_7.out (fun _ hk => ⟨hk.2, hk.1.2⟩)) hg hat)).2.1)))
                                  have n5_ := Aside0.mk (ho)
                                  clear HO_7
                                  clear HO138
                                  clear HB
                                  clear HR132
                                  clear HR145
                                  clear HO128
                                  have HO_7 := n0_
                                  have HO138 := n1_
                                  have HB := n2_
                                  have HR132 := n3_
                                  have HR145 := n4_
                                  have HO135 := n5_
                                  clear n0_ n1_ n2_ n3_ n4_ n5_
                                  clear ho hb hg hat
                                  refine hK.out _ _ trivial (fun hHeld => ?_)
                                  clear hK K
                                  refine norm_ (a' := ?_) ?_ ?_
                                  rotate_left
                                  · show Act.put _ (some 46) _ = _
                                    simp only [Act.put, List.setIfInBounds_toArray, List.set_cons_zero, List.set_cons_succ, i64_w, i32_w]
                                    rfl
                                  exact norm_ (by simp only [putAll, Act.put, List.setIfInBounds_toArray, List.set_cons_zero, List.set_cons_succ]) (hCont (v127, v134, v137) _ ⟨(by (with_reducible repeat (first | apply Kd.R_alloc | apply Kd.R_drewN | apply Kd.R_drew)); exact Kd.R_mono HO135.out (fun _ hk => ⟨hk.2, hk.1⟩)), (by (with_reducible repeat (first | apply Kd.R_alloc | apply Kd.R_drewN | apply Kd.R_drew)); exact Kd.R_mono HO138.out (fun _ hk => ⟨hk.2, hk.1⟩)), (by (with_reducible repeat (first | apply Kd.R_alloc | apply Kd.R_drewN | apply Kd.R_drew)); exact Kd.R_mono HO_7.out (fun _ hk => ⟨hk.2, hk.1⟩)), (by repeat (first | (with_reducible first | exact HB.out | apply below_alloc | apply pw_below_drewN | apply below_drew1) | exact HB.out))⟩)
                              · skip
                                refine Kd.R_lit_step Kd.string _ 9 ?hg (N := 48) ?hd (xs := ([a1] : List ByteArray)) (inner := [.string a1]) (ok := fun _ => True) (okp := fun _ => True) ?hr ?hp (fun _ hk => hk) trivial (Below.refl _ _) (Nat.le_refl _) (by simp) ?_; (case hd => rfl); (case hg => rfl); (case hr => first | (go_simp; done) | (go_simp; rfl)); (case hp => exact (Reps.one (show Kd.M Kd.string _ _ _ a1 [.string a1] from rfl) (Reps.none _ _)))
                                intro v137 w65 ho66 hb hg_ hnew_
                                clear hg_ hnew_
                                (first | rw [← Ny136.out] at ho66 | (simp only [Int.reduceToNat] at ho66; rw [← Ny136.out] at ho66))
                                have n0_ := Aside0.mk (Kd.R_elder' (by (with_reducible repeat (first | apply Kd.R_alloc | apply Kd.R_drewN | apply Kd.R_drew)); exact HO_7.out) (Kd.R_base ho66) hb)
                                have n1_ := Aside0.mk (Kd.R_lower (Kd.R_new' ho66 (Kd.R_lt (by (with_reducible repeat (first | apply Kd.R_alloc | apply Kd.R_drewN | apply Kd.R_drew)); exact HO_7.out))) (below_size (by repeat (first | (with_reducible first | exact HB.out | apply below_alloc | apply pw_below_drewN | apply below_drew1) | exact HB.out))))
                                have n2_ := Aside0.mk (Kd.C_below (by repeat (first | (with_reducible exact HR132.out) | (with_reducible refine Kd.C_alloc ?_ _) | (with_reducible refine Kd.C_drewN ?_ _) | (with_reducible refine Kd.C_drew ?_) | exact HR132.out)) hb)
                                have n3_ := Aside0.mk (Kd.C_below (by repeat (first | (with_reducible exact HR145.out) | (with_reducible refine Kd.C_alloc ?_ _) | (with_reducible refine Kd.C_drewN ?_ _) | (with_reducible refine Kd.C_drew ?_) | exact HR145.out)) hb)
                                have n4_ := Aside0.mk (below_step (by repeat (first | (with_reducible first | exact HB.out | apply below_alloc | apply pw_below_drewN | apply below_drew1) | exact HB.out)) hb)
                                clear HO_7
                                clear HR132
                                clear HR145
                                clear HB
                                have HO_7 := n0_
                                have HO138 := n1_
                                have HR132 := n2_
                                have HR145 := n3_
                                have HB := n4_
                                clear n0_ n1_ n2_ n3_ n4_
                                clear hb ho66
                                refine hK.out _ _ trivial (fun hHeld => ?_)
                                clear hK K
                                refine norm_ (a' := ?_) ?_ ?_
                                rotate_left
                                · show Act.put _ (some 48) _ = _
                                  simp only [Act.put, List.setIfInBounds_toArray, List.set_cons_zero, List.set_cons_succ, i64_w, i32_w]
                                  rfl
                                refine one_ (i := 0) (N := some 42) #[true, true, true, true, false, true, true, false, true, true, true, false, false] rfl rfl (one_of HT_.out (by kernel_rfl)) (by decide) (fun K hK => ?_)
                                refine Kd.R_lit_step Kd.string _ 9 ?hg (N := 42) ?hd (xs := ([] : List ByteArray)) (inner := []) (ok := fun _ => True) (okp := fun _ => True) ?hr ?hp (fun _ hk => hk) trivial (Below.refl _ _) (Nat.le_refl _) (by simp) ?_; (case hd => rfl); (case hg => rfl); (case hr => first | (go_simp; done) | (go_simp; rfl)); (case hp => exact (Reps.none _ _))
                                intro v127 w67 ho68 hb hg_ hnew_
                                clear hg_ hnew_
                                (first | rw [← Ny126.out] at ho68 | (simp only [Int.reduceToNat] at ho68; rw [← Ny126.out] at ho68))
                                have n0_ := Aside0.mk (Kd.R_elder' (by (with_reducible repeat (first | apply Kd.R_alloc | apply Kd.R_drewN | apply Kd.R_drew)); exact HO_7.out) (Kd.R_base ho68) hb)
                                have n1_ := Aside0.mk (Kd.R_elder' (by (with_reducible repeat (first | apply Kd.R_alloc | apply Kd.R_drewN | apply Kd.R_drew)); exact HO138.out) (Kd.R_base ho68) hb)
                                have n2_ := Aside0.mk (Kd.R_lower (Kd.R_new' (Kd.R_new' ho68 (Kd.R_lt (by (with_reducible repeat (first | apply Kd.R_alloc | apply Kd.R_drewN | apply Kd.R_drew)); exact HO_7.out))) (Kd.R_lt (by (with_reducible repeat (first | apply Kd.R_alloc | apply Kd.R_drewN | apply Kd.R_drew)); exact HO138.out))) (below_size (by repeat (first | (with_reducible first | exact HB.out | apply below_alloc | apply pw_below_drewN | apply below_drew1) | exact HB.out))))
                                have n3_ := Aside0.mk (Kd.C_below (by repeat (first | (with_reducible exact HR132.out) | (with_reducible refine Kd.C_alloc ?_ _) | (with_reducible refine Kd.C_drewN ?_ _) | (with_reducible refine Kd.C_drew ?_) | exact HR132.out)) hb)
                                have n4_ := Aside0.mk (Kd.C_below (by repeat (first | (with_reducible exact HR145.out) | (with_reducible refine Kd.C_alloc ?_ _) | (with_reducible refine Kd.C_drewN ?_ _) | (with_reducible refine Kd.C_drew ?_) | exact HR145.out)) hb)
                                have n5_ := Aside0.mk (below_step (by repeat (first | (with_reducible first | exact HB.out | apply below_alloc | apply pw_below_drewN | apply below_drew1) | exact HB.out)) hb)
                                clear HO_7
                                clear HO138
                                clear HR132
                                clear HR145
                                clear HB
                                have HO_7 := n0_
                                have HO138 := n1_
                                have HO128 := n2_
                                have HR132 := n3_
                                have HR145 := n4_
                                have HB := n5_
                                clear n0_ n1_ n2_ n3_ n4_ n5_
                                clear hb ho68
                                refine hK.out _ _ trivial (fun hHeld => ?_)
                                clear hK K
                                refine norm_ (a' := ?_) ?_ ?_
                                rotate_left
                                · show Act.put _ (some 42) _ = _
                                  simp only [Act.put, List.setIfInBounds_toArray, List.set_cons_zero, List.set_cons_succ, i64_w, i32_w]
                                  rfl
                                refine one_ (i := 4) (N := some 46) #[true, true, true, true, true, true, true, false, true, true, true, false, false] rfl rfl (one_of HT_.out (by kernel_rfl)) (by decide) (fun K hK => ?_)
                                refine Kd.R_append_rows_step Kd.string (w0 := w) w.heap.size (by rfl) (.tmp 42) (.tmp 45) 30 9 (.string ⟨#[]⟩) 16 rfl Try.underlying30 info9 rfl (by decide) (by omega) v127 y126 y129 _ _ _ (fun k_ => some k_ ≠ (.slice Ao61 t121.length co61 : Value).ownBlock ∧ some k_ ≠ (v137 : Value).ownBlock) (fun _ => False) rfl rfl ?aO ?aR (fun _ _ h => h) (fun _ h => h.elim) ?aF ?aB ?aS ?aL ?_
                                (case aR => repeat (first | exact (by repeat (first | (with_reducible exact HR132.out) | (with_reducible refine Kd.C_alloc ?_ _) | (with_reducible refine Kd.C_drewN ?_ _) | (with_reducible refine Kd.C_drew ?_) | exact HR132.out)) | (with_reducible refine Kd.C_alloc ?_ _) | (with_reducible refine Kd.C_drewN ?_ _) | (with_reducible refine Kd.C_drew ?_)))
                                (case aB => exact (by repeat (first | (with_reducible first | exact HB.out | apply below_alloc | apply pw_below_drewN | apply below_drew1) | exact HB.out)))
                                (case aF => exact (fun k_ hk => ⟨Kd.fresh' (Kd.R_lt (by (with_reducible repeat (first | apply Kd.R_alloc | apply Kd.R_drewN | apply Kd.R_drew)); exact HO_7.out)) k_ hk, Kd.fresh' (Kd.R_lt (by (with_reducible repeat (first | apply Kd.R_alloc | apply Kd.R_drewN | apply Kd.R_drew)); exact HO138.out)) k_ hk⟩))
                                (case aO => exact (by (with_reducible repeat (first | apply Kd.R_alloc | apply Kd.R_drewN | apply Kd.R_drew)); exact Kd.R_mono HO128.out (fun _ hk => ⟨hk.1.2, hk.2⟩)))
                                (case aS => exact (below_size (by repeat (first | (with_reducible first | exact HB.out | apply below_alloc | apply pw_below_drewN | apply below_drew1) | exact HB.out))))
                                (case aL => have := LMc18.out; omega)
                                intro v134 w69 ho hb hg hat
                                rw [← Ny133.out] at ho
                                have n0_ := Aside0.mk (Kd.R_after (ok := (fun k_ => some k_ ≠ (v137 : Value).ownBlock)) (by (with_reducible repeat (first | apply Kd.R_alloc | apply Kd.R_drewN | apply Kd.R_drew)); exact Kd.R_mono HO_7.out (fun _ hk => ⟨hk.1.2, hk.2⟩)) hg hat)
                                have n1_ := Aside0.mk (Kd.R_after (ok := (fun k_ => some k_ ≠ (.slice Ao61 t121.length co61 : Value).ownBlock)) (by (with_reducible repeat (first | apply Kd.R_alloc | apply Kd.R_drewN | apply Kd.R_drew)); exact Kd.R_mono HO138.out (fun _ hk => ⟨hk.1.2, hk.2⟩)) hg hat)
                                have n2_ := Aside0.mk (hb)
                                have n3_ := Aside0.mk ((show Kd.C Kd.string w69 Ao61 y129.length y129 from by rw [Ny129.out]; exact Kd.C_take (m := ((ji15) : Int).toNat) ((Kd.R_reads' (Kd.R_after (ok := (fun k_ => some k_ ≠ (v137 : Value).ownBlock)) (by (with_reducible repeat (first | apply Kd.R_alloc | apply Kd.R_drewN | apply Kd.R_drew)); exact Kd.R_mono HO_7.out (fun _ hk => ⟨hk.1.2, hk.2⟩)) hg hat)).2.2) KL63.out))
                                have n4_ := Aside0.mk ((show Kd.C Kd.string w69 A64 y142.length y142 from by rw [Ny142.out, KA64.out]; exact Kd.C_drop (m := ((ji15) : Int).toNat) (c := co61) ((Kd.R_reads' (Kd.R_after (ok := (fun k_ => some k_ ≠ (v137 : Value).ownBlock)) (by (with_reducible repeat (first | apply Kd.R_alloc | apply Kd.R_drewN | apply Kd.R_drew)); exact Kd.R_mono HO_7.out (fun _ hk => ⟨hk.1.2, hk.2⟩)) hg hat)).2.2) KL64.out ((Kd.R_reads' (Kd.R_after (ok := (fun k_ => some k_ ≠ (v137 : Value).ownBlock)) (by (with_reducible repeat (first | apply Kd.R_alloc | apply Kd.R_drewN | apply Kd.R_drew)); exact Kd.R_mono HO_7.out (fun _ hk => ⟨hk.1.2, hk.2⟩)) hg hat)).2.1)))
                                have n5_ := Aside0.mk (ho)
                                clear HO_7
                                clear HO138
                                clear HB
                                clear HR132
                                clear HR145
                                clear HO128
                                have HO_7 := n0_
                                have HO138 := n1_
                                have HB := n2_
                                have HR132 := n3_
                                have HR145 := n4_
                                have HO135 := n5_
                                clear n0_ n1_ n2_ n3_ n4_ n5_
                                clear ho hb hg hat
                                refine hK.out _ _ trivial (fun hHeld => ?_)
                                clear hK K
                                refine norm_ (a' := ?_) ?_ ?_
                                rotate_left
                                · show Act.put _ (some 46) _ = _
                                  simp only [Act.put, List.setIfInBounds_toArray, List.set_cons_zero, List.set_cons_succ, i64_w, i32_w]
                                  rfl
                                exact norm_ (by simp only [putAll, Act.put, List.setIfInBounds_toArray, List.set_cons_zero, List.set_cons_succ]) (hCont (v127, v134, v137) _ ⟨(by (with_reducible repeat (first | apply Kd.R_alloc | apply Kd.R_drewN | apply Kd.R_drew)); exact Kd.R_mono HO135.out (fun _ hk => ⟨hk.2, hk.1⟩)), (by (with_reducible repeat (first | apply Kd.R_alloc | apply Kd.R_drewN | apply Kd.R_drew)); exact Kd.R_mono HO138.out (fun _ hk => ⟨hk.2, hk.1⟩)), (by (with_reducible repeat (first | apply Kd.R_alloc | apply Kd.R_drewN | apply Kd.R_drew)); exact Kd.R_mono HO_7.out (fun _ hk => ⟨hk.2, hk.1⟩)), (by repeat (first | (with_reducible first | exact HB.out | apply below_alloc | apply pw_below_drewN | apply below_drew1) | exact HB.out))⟩)
                            rintro ⟨v127, v134, v137⟩ w70 ⟨h0_, h1_, h2_, h3_⟩
                            have n0_ : Aside0 (Kd.R Kd.string 9 w70 w.heap.size (fun k_ => some k_ ≠ (v137 : Value).ownBlock ∧ some k_ ≠ (.slice Ao61 t121.length co61 : Value).ownBlock) v134 y133) := ⟨h0_⟩
                            have n1_ : Aside0 (Kd.R Kd.string 9 w70 w.heap.size (fun k_ => some k_ ≠ (v134 : Value).ownBlock ∧ some k_ ≠ (.slice Ao61 t121.length co61 : Value).ownBlock) v137 y136) := ⟨h1_⟩
                            have n2_ : Aside0 (Kd.R Kd.string 9 w70 w.heap.size (fun k_ => some k_ ≠ (v134 : Value).ownBlock ∧ some k_ ≠ (v137 : Value).ownBlock) (.slice Ao61 t121.length co61) t121) := ⟨h2_⟩
                            have n3_ : Aside0 (Below w.heap.size w w70) := ⟨h3_⟩
                            clear HO_7
                            clear HB
                            clear h0_ h1_ h2_ h3_
                            have HO135 := n0_
                            have HO138 := n1_
                            have HO_7 := n2_
                            have HB := n3_
                            clear n0_ n1_ n2_ n3_
                            have hHeld := trivial
                            have HR132 := Aside0.mk ((show Kd.C Kd.string w70 Ao61 y129.length y129 from by rw [Ny129.out]; exact Kd.C_take (m := ((ji15) : Int).toNat) ((Kd.R_reads' (HO_7.out)).2.2) KL63.out))
                            have HR145 := Aside0.mk ((show Kd.C Kd.string w70 A64 y142.length y142 from by rw [Ny142.out, KA64.out]; exact Kd.C_drop (m := ((ji15) : Int).toNat) (c := co61) ((Kd.R_reads' (HO_7.out)).2.2) KL64.out ((Kd.R_reads' (HO_7.out)).2.1)))
                            obtain ⟨Ao72, co72, eo72⟩ := Kd.R_slice HO138.out
                            (first | subst eo72 | (injection eo72 with f1_ f2_ f3_; have f4_ := f1_.symm; have f5_ := f3_.symm; clear f1_ f2_ f3_; subst f4_; subst f5_))
                            refine norm_ (a' := ?_) ?_ ?_
                            rotate_left
                            · simp only [putAll, Act.put, List.setIfInBounds_toArray, List.set_cons_zero, List.set_cons_succ]
                              rfl
                            refine one_ (i := 7) (N := some 49) #[true, true, true, true, true, true, true, true, true, true, true, false, false] rfl rfl (one_of HT_.out (by kernel_rfl)) (by decide) (fun K hK => ?_)
                            refine Kd.R_append_rows_step Kd.string (w0 := w) w.heap.size (by rfl) (.tmp 46) (.tmp 48) 30 9 (.string ⟨#[]⟩) 16 rfl Try.underlying30 info9 rfl (by decide) (by omega) v134 y133 y136 _ _ _ (fun k_ => some k_ ≠ (.slice Ao61 t121.length co61 : Value).ownBlock ∧ some k_ ≠ (.slice Ao72 y136.length co72 : Value).ownBlock) (fun _ => False) rfl rfl ?aO ?aR (fun _ _ h => h) (fun _ h => h.elim) ?aF ?aB ?aS ?aL ?_
                            (case aR => repeat (first | exact (Kd.R_reads' HO138.out).2.2 | (with_reducible refine Kd.C_alloc ?_ _) | (with_reducible refine Kd.C_drewN ?_ _) | (with_reducible refine Kd.C_drew ?_)))
                            (case aB => exact (by repeat (first | (with_reducible first | exact HB.out | apply below_alloc | apply pw_below_drewN | apply below_drew1) | exact HB.out)))
                            (case aF => exact (fun k_ hk => ⟨Kd.fresh' (Kd.R_lt (by (with_reducible repeat (first | apply Kd.R_alloc | apply Kd.R_drewN | apply Kd.R_drew)); exact HO_7.out)) k_ hk, Kd.fresh' (Kd.R_lt (by (with_reducible repeat (first | apply Kd.R_alloc | apply Kd.R_drewN | apply Kd.R_drew)); exact HO138.out)) k_ hk⟩))
                            (case aO => exact (by (with_reducible repeat (first | apply Kd.R_alloc | apply Kd.R_drewN | apply Kd.R_drew)); exact Kd.R_mono HO135.out (fun _ hk => ⟨hk.2, hk.1⟩)))
                            (case aS => exact (below_size (by repeat (first | (with_reducible first | exact HB.out | apply below_alloc | apply pw_below_drewN | apply below_drew1) | exact HB.out))))
                            (case aL => have := LMc19.out; omega)
                            intro v140 w71 ho hb hg hat
                            rw [← Ny139.out] at ho
                            have n0_ := Aside0.mk (Kd.R_after (ok := (fun k_ => some k_ ≠ (.slice Ao72 y136.length co72 : Value).ownBlock)) (by (with_reducible repeat (first | apply Kd.R_alloc | apply Kd.R_drewN | apply Kd.R_drew)); exact Kd.R_mono HO_7.out (fun _ hk => ⟨hk.2, hk.1⟩)) hg hat)
                            have n1_ := Aside0.mk (Kd.R_after (ok := (fun k_ => some k_ ≠ (.slice Ao61 t121.length co61 : Value).ownBlock)) (by (with_reducible repeat (first | apply Kd.R_alloc | apply Kd.R_drewN | apply Kd.R_drew)); exact Kd.R_mono HO138.out (fun _ hk => ⟨hk.2, hk.1⟩)) hg hat)
                            have n2_ := Aside0.mk (hb)
                            have n3_ := Aside0.mk ((show Kd.C Kd.string w71 Ao61 y129.length y129 from by rw [Ny129.out]; exact Kd.C_take (m := ((ji15) : Int).toNat) ((Kd.R_reads' (Kd.R_after (ok := (fun k_ => some k_ ≠ (.slice Ao72 y136.length co72 : Value).ownBlock)) (by (with_reducible repeat (first | apply Kd.R_alloc | apply Kd.R_drewN | apply Kd.R_drew)); exact Kd.R_mono HO_7.out (fun _ hk => ⟨hk.2, hk.1⟩)) hg hat)).2.2) KL63.out))
                            have n4_ := Aside0.mk ((show Kd.C Kd.string w71 A64 y142.length y142 from by rw [Ny142.out, KA64.out]; exact Kd.C_drop (m := ((ji15) : Int).toNat) (c := co61) ((Kd.R_reads' (Kd.R_after (ok := (fun k_ => some k_ ≠ (.slice Ao72 y136.length co72 : Value).ownBlock)) (by (with_reducible repeat (first | apply Kd.R_alloc | apply Kd.R_drewN | apply Kd.R_drew)); exact Kd.R_mono HO_7.out (fun _ hk => ⟨hk.2, hk.1⟩)) hg hat)).2.2) KL64.out ((Kd.R_reads' (Kd.R_after (ok := (fun k_ => some k_ ≠ (.slice Ao72 y136.length co72 : Value).ownBlock)) (by (with_reducible repeat (first | apply Kd.R_alloc | apply Kd.R_drewN | apply Kd.R_drew)); exact Kd.R_mono HO_7.out (fun _ hk => ⟨hk.2, hk.1⟩)) hg hat)).2.1)))
                            have n5_ := Aside0.mk (ho)
                            clear HO_7
                            clear HO138
                            clear HB
                            clear HR132
                            clear HR145
                            clear HO135
                            have HO_7 := n0_
                            have HO138 := n1_
                            have HB := n2_
                            have HR132 := n3_
                            have HR145 := n4_
                            have HO141 := n5_
                            clear n0_ n1_ n2_ n3_ n4_ n5_
                            clear ho hb hg hat
                            refine hK.out _ _ trivial (fun hHeld => ?_)
                            clear hK K
                            refine norm_ (a' := ?_) ?_ ?_
                            rotate_left
                            · show Act.put _ (some 49) _ = _
                              simp only [Act.put, List.setIfInBounds_toArray, List.set_cons_zero, List.set_cons_succ, i64_w, i32_w]
                              rfl
                            refine one_ (i := 11) (N := some 53) #[true, true, true, true, true, true, true, true, true, true, true, true, false] rfl rfl (one_of HT_.out (by kernel_rfl)) (by decide) (fun K hK => ?_)
                            refine Kd.R_append_rows_step Kd.string (w0 := w) w.heap.size (by rfl) (.tmp 49) (.tmp 52) 30 9 (.string ⟨#[]⟩) 16 rfl Try.underlying30 info9 rfl (by decide) (by omega) v140 y139 y142 _ _ _ (fun k_ => some k_ ≠ (.slice Ao61 t121.length co61 : Value).ownBlock ∧ some k_ ≠ (.slice Ao72 y136.length co72 : Value).ownBlock) (fun _ => False) rfl rfl ?aO ?aR (fun _ _ h => h) (fun _ h => h.elim) ?aF ?aB ?aS ?aL ?_
                            (case aR => repeat (first | exact (by repeat (first | (with_reducible exact HR145.out) | (with_reducible refine Kd.C_alloc ?_ _) | (with_reducible refine Kd.C_drewN ?_ _) | (with_reducible refine Kd.C_drew ?_) | exact HR145.out)) | (with_reducible refine Kd.C_alloc ?_ _) | (with_reducible refine Kd.C_drewN ?_ _) | (with_reducible refine Kd.C_drew ?_)))
                            (case aB => exact (by repeat (first | (with_reducible first | exact HB.out | apply below_alloc | apply pw_below_drewN | apply below_drew1) | exact HB.out)))
                            (case aF => exact (fun k_ hk => ⟨Kd.fresh' (Kd.R_lt (by (with_reducible repeat (first | apply Kd.R_alloc | apply Kd.R_drewN | apply Kd.R_drew)); exact HO_7.out)) k_ hk, Kd.fresh' (Kd.R_lt (by (with_reducible repeat (first | apply Kd.R_alloc | apply Kd.R_drewN | apply Kd.R_drew)); exact HO138.out)) k_ hk⟩))
                            (case aO => exact (by (with_reducible repeat (first | apply Kd.R_alloc | apply Kd.R_drewN | apply Kd.R_drew)); exact HO141.out))
                            (case aS => exact (below_size (by repeat (first | (with_reducible first | exact HB.out | apply below_alloc | apply pw_below_drewN | apply below_drew1) | exact HB.out))))
                            (case aL => have := LMc22.out; omega)
                            intro v147 w73 ho hb hg hat
                            rw [← Ny146.out] at ho
                            have n0_ := Aside0.mk (Kd.R_after (ok := (fun k_ => some k_ ≠ (.slice Ao72 y136.length co72 : Value).ownBlock)) (by (with_reducible repeat (first | apply Kd.R_alloc | apply Kd.R_drewN | apply Kd.R_drew)); exact HO_7.out) hg hat)
                            have n1_ := Aside0.mk (Kd.R_after (ok := (fun k_ => some k_ ≠ (.slice Ao61 t121.length co61 : Value).ownBlock)) (by (with_reducible repeat (first | apply Kd.R_alloc | apply Kd.R_drewN | apply Kd.R_drew)); exact HO138.out) hg hat)
                            have n2_ := Aside0.mk (hb)
                            have n3_ := Aside0.mk ((show Kd.C Kd.string w73 Ao61 y129.length y129 from by rw [Ny129.out]; exact Kd.C_take (m := ((ji15) : Int).toNat) ((Kd.R_reads' (Kd.R_after (ok := (fun k_ => some k_ ≠ (.slice Ao72 y136.length co72 : Value).ownBlock)) (by (with_reducible repeat (first | apply Kd.R_alloc | apply Kd.R_drewN | apply Kd.R_drew)); exact HO_7.out) hg hat)).2.2) KL63.out))
                            have n4_ := Aside0.mk ((show Kd.C Kd.string w73 A64 y142.length y142 from by rw [Ny142.out, KA64.out]; exact Kd.C_drop (m := ((ji15) : Int).toNat) (c := co61) ((Kd.R_reads' (Kd.R_after (ok := (fun k_ => some k_ ≠ (.slice Ao72 y136.length co72 : Value).ownBlock)) (by (with_reducible repeat (first | apply Kd.R_alloc | apply Kd.R_drewN | apply Kd.R_drew)); exact HO_7.out) hg hat)).2.2) KL64.out ((Kd.R_reads' (Kd.R_after (ok := (fun k_ => some k_ ≠ (.slice Ao72 y136.length co72 : Value).ownBlock)) (by (with_reducible repeat (first | apply Kd.R_alloc | apply Kd.R_drewN | apply Kd.R_drew)); exact HO_7.out) hg hat)).2.1)))
                            have n5_ := Aside0.mk (ho)
                            clear HO_7
                            clear HO138
                            clear HB
                            clear HR132
                            clear HR145
                            clear HO141
                            have HO_7 := n0_
                            have HO138 := n1_
                            have HB := n2_
                            have HR132 := n3_
                            have HR145 := n4_
                            have HO148 := n5_
                            clear n0_ n1_ n2_ n3_ n4_ n5_
                            clear ho hb hg hat
                            refine hK.out _ _ trivial (fun hHeld => ?_)
                            clear hK K
                            refine norm_ (a' := ?_) ?_ ?_
                            rotate_left
                            · show Act.put _ (some 53) _ = _
                              simp only [Act.put, List.setIfInBounds_toArray, List.set_cons_zero, List.set_cons_succ, i64_w, i32_w]
                              rfl
                            refine pure_ (i := 12) (N := some 10) (v := ?_) (a' := ?_) #[true, true, true, true, true, true, true, true, true, true, true, true, true] rfl rfl (any_of HT_.out (by kernel_rfl)) (fun _ _ _ h => h) (Or.inl ⟨by rfl, ?_⟩) ?_ ?_
                            rotate_left
                            · intro w'
                              go_simp
                              with_reducible rfl
                            rotate_left
                            · simp only [Act.put, List.setIfInBounds_toArray, List.set_cons_zero, List.set_cons_succ, i64_w, i32_w]
                              rfl
                            refine done_ (done_of HT_.out (by kernel_rfl)) ?_
                            obtain ⟨Ao74, co74, eo74⟩ := Kd.R_slice HO148.out
                            subst eo74
                            try go_wp2_with (first | ((with_reducible refine gate_callee (f := 16) rfl ?_); refine goesL_ (some 55) rfl rfl Try.func16 (by kernel_rfl) rfl #[.slice Ao74 y146.length co74, .string (⟨#[]⟩ : ByteArray)] rfl (by (try simp only [List.map_toArray, List.map_cons, List.map_nil]); first | done | rfl | (simp only [List.length_drop, List.length_take]; rfl)) ?_; (with_reducible refine (spec_Joined.calls kj7 _ _ y146 (⟨#[]⟩ : ByteArray) t149 _ ?side1 ?side2 A23.out).mono ?_); (case side1 => repeat (first | exact (Kd.R_reads' HO148.out).2.2 | (with_reducible refine Kd.C_alloc ?_ _) | (with_reducible refine Kd.C_drewN ?_ _) | (with_reducible refine Kd.C_drew ?_))); (case side2 => exact (Kd.R_reads' HO148.out).2.1); rintro e w' ⟨rfl, ⟨nd, rfl⟩⟩; refine ⟨_, rfl, ?_⟩) | ((with_reducible refine gate_callee (f := 17) rfl ?_); refine goesL_ (some 75) rfl rfl Try.func17 (by kernel_rfl) rfl #[.string t149, .slice Ao74 y146.length co74] rfl (by (try simp only [List.map_toArray, List.map_cons, List.map_nil]); first | done | rfl | (simp only [List.length_drop, List.length_take]; rfl)) ?_; (with_reducible refine (laws_sgWalk.calls kj7 t149 _ _ y146 t154 _ ?side1 ?side2 A60.out).mono ?_); (case side1 => repeat (first | exact (Kd.R_reads' HO148.out).2.2 | (with_reducible refine Kd.C_alloc ?_ _) | (with_reducible refine Kd.C_drewN ?_ _) | (with_reducible refine Kd.C_drew ?_))); (case side2 => exact (Kd.R_reads' HO148.out).2.1); rintro e w75 ⟨rfl, hb⟩; refine ⟨_, rfl, ?_⟩; have n0_ := Aside0.mk (Kd.R_below (by (with_reducible repeat (first | apply Kd.R_alloc | apply Kd.R_drewN | apply Kd.R_drew)); exact HO_7.out) hb); have n1_ := Aside0.mk (Kd.R_below (by (with_reducible repeat (first | apply Kd.R_alloc | apply Kd.R_drewN | apply Kd.R_drew)); exact HO138.out) hb); have n2_ := Aside0.mk (Kd.R_below (by (with_reducible repeat (first | apply Kd.R_alloc | apply Kd.R_drewN | apply Kd.R_drew)); exact HO148.out) hb); have n3_ := Aside0.mk (Kd.C_below (by repeat (first | (with_reducible exact HR132.out) | (with_reducible refine Kd.C_alloc ?_ _) | (with_reducible refine Kd.C_drewN ?_ _) | (with_reducible refine Kd.C_drew ?_) | exact HR132.out)) hb); have n4_ := Aside0.mk (Kd.C_below (by repeat (first | (with_reducible exact HR145.out) | (with_reducible refine Kd.C_alloc ?_ _) | (with_reducible refine Kd.C_drewN ?_ _) | (with_reducible refine Kd.C_drew ?_) | exact HR145.out)) hb); have n5_ := Aside0.mk (below_step (by repeat (first | (with_reducible first | exact HB.out | apply below_alloc | apply pw_below_drewN | apply below_drew1) | exact HB.out)) hb); clear HO_7; clear HO138; clear HO148; clear HR132; clear HR145; clear HB; have HO_7 := n0_; have HO138 := n1_; have HO148 := n2_; have HR132 := n3_; have HR145 := n4_; have HB := n5_; clear n0_ n1_ n2_ n3_ n4_ n5_; (try clear hb); (try clear hb2); (try clear hk); (try clear hi)))
                            go_ret
                            exact ⟨by first | rfl | (simp [errW_none, errW_some] <;> rfl) | (simp only [← hji15]; first | rfl | (simp [errW_none, errW_some] <;> rfl)) | (simp [*, errW_none, errW_some] <;> rfl), by repeat (first | (with_reducible first | exact HB.out | apply below_alloc | apply pw_below_drewN | apply below_drew1) | exact HB.out)⟩
                        · rw [if_neg c22] at H
                          exact absurd H (by simp)
                      · rw [if_neg c19] at H
                        exact absurd H (by simp)
                    · rw [if_neg c18] at H
                      exact absurd H (by simp)
                  · rw [if_neg c17] at H
                    exact absurd H (by simp)
                · rw [if_neg c16] at H
                  exact absurd H (by simp)

/-- THE ONE PURE STATEMENT of laws_FnSgInsert: yours. -/
def laws_FnSgInsert.Pure : Prop := ∀ (a0 : ByteArray) (a1 : ByteArray) (a2 : Int), a0.size ≤ 140737488351232 → a1.size ≤ 140737488351232 → (Lit.int .u8 a2).wf = true → ∃ k, laws_FnSgInsert.f k a0 a1 a2 = some true
theorem laws_FnSgInsert.walk (P : laws_FnSgInsert.Pure) (a0 : ByteArray) (a1 : ByteArray) (a2 : Int) (w : World) (w0 : a0.size ≤ 140737488351232) (w1 : a1.size ≤ 140737488351232) (w2 : (Lit.int .u8 a2).wf = true) :
    Calls Try.prog 8 #[.string a0, .string a1, .int .u8 a2] w fun e w' => e = .returned (.bool true) ∧ Below w.heap.size w w' := by
  obtain ⟨k, h⟩ := P a0 a1 a2 w0 w1 w2
  refine (laws_FnSgInsert.calls k a0 a1 a2 true w h).mono ?_
  rintro e w' ⟨rfl, hd⟩
  exact ⟨rfl, hd⟩

end Go.Proofs.Ythhiijehdpchbaa.Q
