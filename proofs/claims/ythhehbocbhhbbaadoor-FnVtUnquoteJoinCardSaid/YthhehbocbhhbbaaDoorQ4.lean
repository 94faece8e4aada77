-- Written by a program of this session out of the translation; Lean checks it.
import Derived.Test.YthhehbocbhhbbaaDoorQ0
import Derived.Test.YthhehbocbhhbbaaDoorQ1
import Derived.Test.YthhehbocbhhbbaaDoorQ2
import Derived.Test.YthhehbocbhhbbaaDoorQ3
namespace Go.Proofs.YthhehbocbhhbbaaDoor.Q
open Go.RowKit Go.Proofs.YthhehbocbhhbbaaDoor.Vs Go.Proofs.YthhehbocbhhbbaaDoorW.PrintWords Go.Proofs.YthhehbocbhhbbaaDoorW.PrintLast Go.Proofs.YthhehbocbhhbbaaDoorW.PrintMore
attribute [local go_sem] max2_int min2_int max_two min_two max_three min_three max_four min_four   -- for this text's walks alone
set_option linter.unusedVariables false
set_option linter.unusedSimpArgs false

/-! ### laws_FnVtUnquoteJoin: function 4 -/
mutual
def laws_FnVtUnquoteJoin.j0 : Nat → ByteArray → ByteArray → Bool → Bool → Option (Bool)
  | 0, _, _, _, _ => none
  | k + 1, x0, x1, x2, x26 => if x26 = true then (some true) else ((laws_vtInside.f k x0 x2).bind fun bt165 => ((laws_vtInside.f k x1 x2).bind fun bt167 => (if bt165.2 = true then (if bt167.2 = true then (if (wrap64 ((bt165.1.size : Int) + (bt167.1.size : Int))) > 4096 then (laws_FnVtUnquoteJoin.j1 k bt165.1 bt167.1 true) else ((spec_UTF8.f k x0).bind fun t169 => (if t169 = true then ((spec_UTF8.f k x1).bind fun t170 => (laws_FnVtUnquoteJoin.j1 k bt165.1 bt167.1 (!t170))) else (laws_FnVtUnquoteJoin.j1 k bt165.1 bt167.1 true)))) else (laws_FnVtUnquoteJoin.j1 k bt165.1 bt167.1 true)) else (laws_FnVtUnquoteJoin.j1 k bt165.1 bt167.1 true))))
def laws_FnVtUnquoteJoin.j1 : Nat → ByteArray → ByteArray → Bool → Option (Bool)
  | 0, _, _, _ => none
  | k + 1, x7, x9, x62 => if x62 = true then (some true) else ((impl_VtUnquote.f x7).bind fun bt171 => (if bt171.2 = true then ((impl_VtUnquote.f x9).bind fun bt173 => (if 0 ≤ (wrap64 ((x7.size : Int) - 1)) then (if (wrap64 ((x7.size : Int) - 1)) ≤ (x7.size : Int) then (if 1 ≤ (x9.size : Int) then (if (x7.extract 0 ((wrap64 ((x7.size : Int) - 1)) : Int).toNat).size + (x9.extract 1 x9.size).size ≤ 9223372036854775807 then ((impl_VtUnquote.f ((x7.extract 0 ((wrap64 ((x7.size : Int) - 1)) : Int).toNat) ++ (x9.extract 1 x9.size))).bind fun bt175 => (if (bt175.2 == bt173.2) = true then (if bt175.2 = true then (if bt171.1.size + bt173.1.size ≤ 9223372036854775807 then (some (bt175.1.toList == (bt171.1 ++ bt173.1).toList)) else (none)) else (some true)) else (some false))) else (none)) else (none)) else (none)) else (none))) else ((spec_Unquoted.f k x7).bind fun bt177 => (some (!bt177.2)))))
end
def laws_FnVtUnquoteJoin.f (k : Nat) (a0 : ByteArray) (a1 : ByteArray) (a2 : Bool) : Option (Bool) := if (a0.size : Int) > 2147483647 then (laws_FnVtUnquoteJoin.j0 k a0 a1 a2 true) else (laws_FnVtUnquoteJoin.j0 k a0 a1 a2 (decide ((a1.size : Int) > 2147483647)))
theorem laws_FnVtUnquoteJoin.mono_l : ∀ k, (∀ y0 y1 y2 y3, LeO (laws_FnVtUnquoteJoin.j0 k y0 y1 y2 y3) (laws_FnVtUnquoteJoin.j0 (k + 1) y0 y1 y2 y3)) ∧ (∀ y0 y1 y2, LeO (laws_FnVtUnquoteJoin.j1 k y0 y1 y2) (laws_FnVtUnquoteJoin.j1 (k + 1) y0 y1 y2))
  | 0 => ⟨fun _ _ _ _ r h => by simp [laws_FnVtUnquoteJoin.j0] at h, fun _ _ _ r h => by simp [laws_FnVtUnquoteJoin.j1] at h⟩
  | k + 1 => by
    obtain ⟨ih0, ih1⟩ := laws_FnVtUnquoteJoin.mono_l k
    refine ⟨?_, ?_⟩
    · intro y0 y1 y2 y3
      unfold laws_FnVtUnquoteJoin.j0
      repeat' first
      | (with_reducible exact ih0 _ _ _ _)
      | (with_reducible exact ih1 _ _ _)
      | (with_reducible exact laws_vtInside.mono _ _ _)
      | (with_reducible exact spec_UTF8.mono _ _)
      | (with_reducible exact spec_Unquoted.mono _ _)
      | (with_reducible exact LeO.refl _)
      | (with_reducible exact LeO.none _)
      | (with_reducible refine LeO.ite ?_ ?_)
      | (with_reducible refine LeO.bind ?_ (fun _ => ?_))
      | exact ih0 _ _ _ _
      | exact ih1 _ _ _
      | exact laws_vtInside.mono _ _ _
      | exact spec_UTF8.mono _ _
      | exact spec_Unquoted.mono _ _
      | exact LeO.none _
      | refine LeO.ite ?_ ?_
      | refine LeO.bind ?_ (fun _ => ?_)
    · intro y0 y1 y2
      unfold laws_FnVtUnquoteJoin.j1
      repeat' first
      | (with_reducible exact ih0 _ _ _ _)
      | (with_reducible exact ih1 _ _ _)
      | (with_reducible exact laws_vtInside.mono _ _ _)
      | (with_reducible exact spec_UTF8.mono _ _)
      | (with_reducible exact spec_Unquoted.mono _ _)
      | (with_reducible exact LeO.refl _)
      | (with_reducible exact LeO.none _)
      | (with_reducible refine LeO.ite ?_ ?_)
      | (with_reducible refine LeO.bind ?_ (fun _ => ?_))
      | exact ih0 _ _ _ _
      | exact ih1 _ _ _
      | exact laws_vtInside.mono _ _ _
      | exact spec_UTF8.mono _ _
      | exact spec_Unquoted.mono _ _
      | exact LeO.none _
      | refine LeO.ite ?_ ?_
      | refine LeO.bind ?_ (fun _ => ?_)
theorem laws_FnVtUnquoteJoin.mono : ∀ a0 a1 a2 k, LeO (laws_FnVtUnquoteJoin.f k a0 a1 a2) (laws_FnVtUnquoteJoin.f (k + 1) a0 a1 a2) := by
  intro a0 a1 a2 k
  obtain ⟨ih0, ih1⟩ := laws_FnVtUnquoteJoin.mono_l k
  unfold laws_FnVtUnquoteJoin.f
  repeat' first
      | (with_reducible exact ih0 _ _ _ _)
      | (with_reducible exact ih1 _ _ _)
      | (with_reducible exact laws_vtInside.mono _ _ _)
      | (with_reducible exact spec_UTF8.mono _ _)
      | (with_reducible exact spec_Unquoted.mono _ _)
      | (with_reducible exact LeO.refl _)
      | (with_reducible exact LeO.none _)
      | (with_reducible refine LeO.ite ?_ ?_)
      | (with_reducible refine LeO.bind ?_ (fun _ => ?_))
      | exact ih0 _ _ _ _
      | exact ih1 _ _ _
      | exact laws_vtInside.mono _ _ _
      | exact spec_UTF8.mono _ _
      | exact spec_Unquoted.mono _ _
      | exact LeO.none _
      | refine LeO.ite ?_ ?_
      | refine LeO.bind ?_ (fun _ => ?_)
def laws_FnVtUnquoteJoin.T12 : Bool × List (List Nat × List Nat) := (true, [([], []), ([], []), ([1], [1]), ([2], [2]), ([0, 3], [0, 3]), ([], []), ([5], [5]), ([4, 6], [4, 6]), ([7], [7]), ([8], [8]), ([9], [9]), ([9], [9]), ([10, 8, 0, 1, 2, 3, 4, 5, 6, 7, 8, 9, 10], [10]), ([11, 12, 0, 1, 2, 3, 4, 5, 6, 7, 8, 9, 10, 11, 12], [11])])
def laws_FnVtUnquoteJoin.B12 : List Nat := [0, 0, 2, 6, 15, 0, 32, 127, 255, 511, 1023, 1023, 2047, 8191]
theorem laws_FnVtUnquoteJoin.tab12 : rtab .any (opsOf Tryd.f4 12) = laws_FnVtUnquoteJoin.T12 := by kernel_rfl
theorem laws_FnVtUnquoteJoin.bits12 : waitsOk laws_FnVtUnquoteJoin.T12.2 laws_FnVtUnquoteJoin.B12 = true := by kernel_rfl
set_option maxHeartbeats 8000000 in
set_option maxRecDepth 100000 in
theorem laws_FnVtUnquoteJoin.calls (k : Nat) (a0 : ByteArray) (a1 : ByteArray) (a2 : Bool) (r : Bool) (w : World) (HT0 : Vp.Tabs w) (h : laws_FnVtUnquoteJoin.f k a0 a1 a2 = some r) :
    Calls Tryd.prog 4 #[.string a0, .string a1, .bool a2] w fun e w' => e = .returned (.bool r) ∧ Below w.heap.size w w' := by
  have HT := Aside0.mk HT0
  have HT9 := Aside0.mk HT0.lt
  clear HT0
  have HB := Aside0.mk (Below.refl w.heap.size w)
  have H : (if (a0.size : Int) > 2147483647 then (laws_FnVtUnquoteJoin.j0 k a0 a1 a2 true) else (laws_FnVtUnquoteJoin.j0 k a0 a1 a2 (decide ((a1.size : Int) > 2147483647)))) = some r := h
  clear h
  have HC4 := Aside0.mk H
  clear H
  go_enter Tryd.func4, Tryd.ntmps4
  go_upto_region 1 with (fail)
  go_cut [26] (fun v26 wc => ∃ (kq : Nat) (x26_3 : Bool), v26 = .bool x26_3 ∧ Aside0 (laws_FnVtUnquoteJoin.j0 kq a0 a1 a2 x26_3 = some r) ∧ Aside0 (kq ≤ k) ∧ Aside0 (Below w.heap.size w wc))
  case first =>
    have H := HC4.out
    clear HC4
    by_cases c5 : (a0.size : Int) > 2147483647
    · rw [if_pos c5] at H
      have c5b0 : decide (2147483647 < (a0.size : Int)) = true := decide_eq_true c5
      have c5b1 : decide (2147483647 < a0.size) = true := decide_eq_true (by omega)
      clear c5
      (first | rw [c5b0] | (simp only [i64_w, i32_w]; rw [c5b0]) | skip)
      have H' := Aside0.mk H
      clear H
      go_wp2
      go_meet
      case rel => exact ⟨_, (true), (by first | rfl | (simp; done) | (simp [*]; done)), H', ⟨by first | omega | exact Nat.le_refl _⟩, ⟨by repeat (first | (with_reducible first | exact HB.out | apply below_alloc | apply pw_below_drewN | apply below_drew1) | exact HB.out)⟩⟩
    · rw [if_neg c5] at H
      have c5b0 : decide (2147483647 < (a0.size : Int)) = false := decide_eq_false c5
      have c5b1 : decide (2147483647 < a0.size) = false := decide_eq_false (by omega)
      clear c5
      (first | rw [c5b0] | (simp only [i64_w, i32_w]; rw [c5b0]) | skip)
      have H' := Aside0.mk H
      clear H
      go_wp2
      go_meet
      case rel => exact ⟨_, (decide ((a1.size : Int) > 2147483647)), (by first | rfl | (simp; done) | (simp [*]; done)), H', ⟨by first | omega | exact Nat.le_refl _⟩, ⟨by repeat (first | (with_reducible first | exact HB.out | apply below_alloc | apply pw_below_drewN | apply below_drew1) | exact HB.out)⟩⟩
  case rest =>
    clear HC4
    try clear p2
    try clear c4
    try clear c5
    try clear c5b0
    try clear c5b1
    obtain ⟨kq, x26_3, rfl, HA, HJ3, HB⟩ := hcut
    cases kq with
    | zero => exact absurd HA.out (by simp [laws_FnVtUnquoteJoin.j0])
    | succ kj3 =>
      have H := HA.out
      clear HA
      simp only [laws_FnVtUnquoteJoin.j0] at H
      by_cases c6 : x26_3 = true
      · subst c6
        have H1 : (some true) = some r := by rw [if_pos rfl] at H; exact H
        clear H
        have H := H1
        clear H1
        obtain rfl := Option.some.inj H
        go_wp2
        go_ret
        exact ⟨by first | rfl | (simp [errW_none, errW_some] <;> rfl) | (simp [*, errW_none, errW_some] <;> rfl), by repeat (first | (with_reducible first | exact HB.out | apply below_alloc | apply pw_below_drewN | apply below_drew1) | exact HB.out)⟩
      · replace c6 := Bool.eq_false_iff.mpr c6
        subst c6
        have H1 : ((laws_vtInside.f kj3 a0 a2).bind fun bt165 => ((laws_vtInside.f kj3 a1 a2).bind fun bt167 => (if bt165.2 = true then (if bt167.2 = true then (if (wrap64 ((bt165.1.size : Int) + (bt167.1.size : Int))) > 4096 then (laws_FnVtUnquoteJoin.j1 kj3 bt165.1 bt167.1 true) else ((spec_UTF8.f kj3 a0).bind fun t169 => (if t169 = true then ((spec_UTF8.f kj3 a1).bind fun t170 => (laws_FnVtUnquoteJoin.j1 kj3 bt165.1 bt167.1 (!t170))) else (laws_FnVtUnquoteJoin.j1 kj3 bt165.1 bt167.1 true)))) else (laws_FnVtUnquoteJoin.j1 kj3 bt165.1 bt167.1 true)) else (laws_FnVtUnquoteJoin.j1 kj3 bt165.1 bt167.1 true)))) = some r := by rw [if_neg (show ¬ (false = true) by decide)] at H; exact H
        clear H
        have H := H1
        clear H1
        replace H := Option.bind_eq_some_iff.mp H
        obtain ⟨⟨t165, t166⟩, A70, H⟩ := H
        replace H : ((laws_vtInside.f kj3 a1 a2).bind fun bt167 => (if t166 = true then (if bt167.2 = true then (if (wrap64 ((t165.size : Int) + (bt167.1.size : Int))) > 4096 then (laws_FnVtUnquoteJoin.j1 kj3 t165 bt167.1 true) else ((spec_UTF8.f kj3 a0).bind fun t169 => (if t169 = true then ((spec_UTF8.f kj3 a1).bind fun t170 => (laws_FnVtUnquoteJoin.j1 kj3 t165 bt167.1 (!t170))) else (laws_FnVtUnquoteJoin.j1 kj3 t165 bt167.1 true)))) else (laws_FnVtUnquoteJoin.j1 kj3 t165 bt167.1 true)) else (laws_FnVtUnquoteJoin.j1 kj3 t165 bt167.1 true))) = some r := H
        have A7 := Aside0.mk A70
        clear A70
        replace H := Option.bind_eq_some_iff.mp H
        obtain ⟨⟨t167, t168⟩, A80, H⟩ := H
        replace H : (if t166 = true then (if t168 = true then (if (wrap64 ((t165.size : Int) + (t167.size : Int))) > 4096 then (laws_FnVtUnquoteJoin.j1 kj3 t165 t167 true) else ((spec_UTF8.f kj3 a0).bind fun t169 => (if t169 = true then ((spec_UTF8.f kj3 a1).bind fun t170 => (laws_FnVtUnquoteJoin.j1 kj3 t165 t167 (!t170))) else (laws_FnVtUnquoteJoin.j1 kj3 t165 t167 true)))) else (laws_FnVtUnquoteJoin.j1 kj3 t165 t167 true)) else (laws_FnVtUnquoteJoin.j1 kj3 t165 t167 true)) = some r := H
        have A8 := Aside0.mk A80
        clear A80
        have HC9 := Aside0.mk H
        clear H
        go_upto_region 5 with (first | ((with_reducible refine gate_callee (f := 6) rfl ?_); refine goesL_ (some 30) rfl rfl Tryd.func6 (by kernel_rfl) rfl #[.string a0, .bool a2] rfl (by (try simp only [List.map_toArray, List.map_cons, List.map_nil]); first | done | rfl | (simp only [List.length_drop, List.length_take]; rfl)) ?_; (with_reducible refine (laws_vtInside.calls kj3 a0 a2 t165 t166 _ A7.out).mono ?_); rintro e w' ⟨rfl, ⟨nd, rfl⟩⟩; refine ⟨_, rfl, ?_⟩) | ((with_reducible refine gate_callee (f := 6) rfl ?_); refine goesL_ (some 36) rfl rfl Tryd.func6 (by kernel_rfl) rfl #[.string a1, .bool a2] rfl (by (try simp only [List.map_toArray, List.map_cons, List.map_nil]); first | done | rfl | (simp only [List.length_drop, List.length_take]; rfl)) ?_; (with_reducible refine (laws_vtInside.calls kj3 a1 a2 t167 t168 _ A8.out).mono ?_); rintro e w' ⟨rfl, ⟨nd, rfl⟩⟩; refine ⟨_, rfl, ?_⟩))
        (try simp only [Act.put, List.setIfInBounds_toArray, List.set_cons_zero, List.set_cons_succ])
        go_cut [62] (fun v62 wc => ∃ (kq : Nat) (x62_8 : Bool), v62 = .bool x62_8 ∧ Aside0 (laws_FnVtUnquoteJoin.j1 kq t165 t167 x62_8 = some r) ∧ Aside0 (kq ≤ kj3) ∧ Aside0 (Below w.heap.size w wc))
        case first =>
          have H := HC9.out
          clear HC9
          by_cases c10 : t166 = true
          · subst c10
            have H1 : (if t168 = true then (if (wrap64 ((t165.size : Int) + (t167.size : Int))) > 4096 then (laws_FnVtUnquoteJoin.j1 kj3 t165 t167 true) else ((spec_UTF8.f kj3 a0).bind fun t169 => (if t169 = true then ((spec_UTF8.f kj3 a1).bind fun t170 => (laws_FnVtUnquoteJoin.j1 kj3 t165 t167 (!t170))) else (laws_FnVtUnquoteJoin.j1 kj3 t165 t167 true)))) else (laws_FnVtUnquoteJoin.j1 kj3 t165 t167 true)) = some r := by rw [if_pos rfl] at H; exact H
            clear H
            have H := H1
            clear H1
            by_cases c11 : t168 = true
            · subst c11
              have H1 : (if (wrap64 ((t165.size : Int) + (t167.size : Int))) > 4096 then (laws_FnVtUnquoteJoin.j1 kj3 t165 t167 true) else ((spec_UTF8.f kj3 a0).bind fun t169 => (if t169 = true then ((spec_UTF8.f kj3 a1).bind fun t170 => (laws_FnVtUnquoteJoin.j1 kj3 t165 t167 (!t170))) else (laws_FnVtUnquoteJoin.j1 kj3 t165 t167 true)))) = some r := by rw [if_pos rfl] at H; exact H
              clear H
              have H := H1
              clear H1
              by_cases c12 : (wrap64 ((t165.size : Int) + (t167.size : Int))) > 4096
              · rw [if_pos c12] at H
                have c12b0 : decide (4096 < (wrap64 ((t165.size : Int) + (t167.size : Int)))) = true := decide_eq_true c12
                clear c12
                (first | rw [c12b0] | (simp only [i64_w, i32_w]; rw [c12b0]) | skip)
                have H' := Aside0.mk H
                clear H
                go_wp2
                go_meet
                case rel => exact ⟨_, (true), (by first | rfl | (simp; done) | (simp [*]; done)), H', ⟨by have := HJ3.out; first | omega | exact Nat.le_refl _⟩, ⟨by repeat (first | (with_reducible first | exact HB.out | apply below_alloc | apply pw_below_drewN | apply below_drew1) | exact HB.out)⟩⟩
              · rw [if_neg c12] at H
                have c12b0 : decide (4096 < (wrap64 ((t165.size : Int) + (t167.size : Int)))) = false := decide_eq_false c12
                clear c12
                (first | rw [c12b0] | (simp only [i64_w, i32_w]; rw [c12b0]) | skip)
                replace H := Option.bind_eq_some_iff.mp H
                obtain ⟨t169, A130, H⟩ := H
                replace H : (if t169 = true then ((spec_UTF8.f kj3 a1).bind fun t170 => (laws_FnVtUnquoteJoin.j1 kj3 t165 t167 (!t170))) else (laws_FnVtUnquoteJoin.j1 kj3 t165 t167 true)) = some r := H
                have A13 := Aside0.mk A130
                clear A130
                by_cases c14 : t169 = true
                · subst c14
                  have H1 : ((spec_UTF8.f kj3 a1).bind fun t170 => (laws_FnVtUnquoteJoin.j1 kj3 t165 t167 (!t170))) = some r := by rw [if_pos rfl] at H; exact H
                  clear H
                  have H := H1
                  clear H1
                  replace H := Option.bind_eq_some_iff.mp H
                  obtain ⟨t170, A150, H⟩ := H
                  replace H : (laws_FnVtUnquoteJoin.j1 kj3 t165 t167 (!t170)) = some r := H
                  have A15 := Aside0.mk A150
                  clear A150
                  have H' := Aside0.mk H
                  clear H
                  go_wp2_with (first | (go_at_call 7; (with_reducible refine (spec_UTF8.calls kj3 a0 true _ A13.out).mono ?_); rintro e w' ⟨rfl, ⟨nd, rfl⟩⟩) | (go_at_call 7; (with_reducible refine (spec_UTF8.calls kj3 a1 t170 _ A15.out).mono ?_); rintro e w' ⟨rfl, ⟨nd, rfl⟩⟩))
                  go_meet
                  case rel => exact ⟨_, (!t170), (by first | rfl | (simp; done) | (simp [*]; done)), H', ⟨by have := HJ3.out; first | omega | exact Nat.le_refl _⟩, ⟨by repeat (first | (with_reducible first | exact HB.out | apply below_alloc | apply pw_below_drewN | apply below_drew1) | exact HB.out)⟩⟩
                · replace c14 := Bool.eq_false_iff.mpr c14
                  subst c14
                  have H1 : (laws_FnVtUnquoteJoin.j1 kj3 t165 t167 true) = some r := by rw [if_neg (show ¬ (false = true) by decide)] at H; exact H
                  clear H
                  have H := H1
                  clear H1
                  have H' := Aside0.mk H
                  clear H
                  go_wp2_with (first | (go_at_call 7; (with_reducible refine (spec_UTF8.calls kj3 a0 false _ A13.out).mono ?_); rintro e w' ⟨rfl, ⟨nd, rfl⟩⟩))
                  go_meet
                  case rel => exact ⟨_, (true), (by first | rfl | (simp; done) | (simp [*]; done)), H', ⟨by have := HJ3.out; first | omega | exact Nat.le_refl _⟩, ⟨by repeat (first | (with_reducible first | exact HB.out | apply below_alloc | apply pw_below_drewN | apply below_drew1) | exact HB.out)⟩⟩
            · replace c11 := Bool.eq_false_iff.mpr c11
              subst c11
              have H1 : (laws_FnVtUnquoteJoin.j1 kj3 t165 t167 true) = some r := by rw [if_neg (show ¬ (false = true) by decide)] at H; exact H
              clear H
              have H := H1
              clear H1
              have H' := Aside0.mk H
              clear H
              go_wp2
              go_meet
              case rel => exact ⟨_, (true), (by first | rfl | (simp; done) | (simp [*]; done)), H', ⟨by have := HJ3.out; first | omega | exact Nat.le_refl _⟩, ⟨by repeat (first | (with_reducible first | exact HB.out | apply below_alloc | apply pw_below_drewN | apply below_drew1) | exact HB.out)⟩⟩
          · replace c10 := Bool.eq_false_iff.mpr c10
            subst c10
            have H1 : (laws_FnVtUnquoteJoin.j1 kj3 t165 t167 true) = some r := by rw [if_neg (show ¬ (false = true) by decide)] at H; exact H
            clear H
            have H := H1
            clear H1
            have H' := Aside0.mk H
            clear H
            go_wp2
            go_meet
            case rel => exact ⟨_, (true), (by first | rfl | (simp; done) | (simp [*]; done)), H', ⟨by have := HJ3.out; first | omega | exact Nat.le_refl _⟩, ⟨by repeat (first | (with_reducible first | exact HB.out | apply below_alloc | apply pw_below_drewN | apply below_drew1) | exact HB.out)⟩⟩
        case rest =>
          clear HC9
          try clear c1
          try clear p2
          try clear c4
          try clear c5
          try clear c5b0
          try clear c5b1
          try clear c6
          try clear p6
          try clear c10
          try clear c11
          try clear c12
          try clear c12b0
          try clear c14
          try clear p2
          obtain ⟨kq, x62_8, rfl, HA, HJ8, HB⟩ := hcut
          cases kq with
          | zero => exact absurd HA.out (by simp [laws_FnVtUnquoteJoin.j1])
          | succ kj8 =>
            have H := HA.out
            clear HA
            simp only [laws_FnVtUnquoteJoin.j1] at H
            by_cases c16 : x62_8 = true
            · subst c16
              have H1 : (some true) = some r := by rw [if_pos rfl] at H; exact H
              clear H
              have H := H1
              clear H1
              obtain rfl := Option.some.inj H
              go_wp2
              go_ret
              exact ⟨by first | rfl | (simp [errW_none, errW_some] <;> rfl) | (simp [*, errW_none, errW_some] <;> rfl), by repeat (first | (with_reducible first | exact HB.out | apply below_alloc | apply pw_below_drewN | apply below_drew1) | exact HB.out)⟩
            · replace c16 := Bool.eq_false_iff.mpr c16
              subst c16
              have H1 : ((impl_VtUnquote.f t165).bind fun bt171 => (if bt171.2 = true then ((impl_VtUnquote.f t167).bind fun bt173 => (if 0 ≤ (wrap64 ((t165.size : Int) - 1)) then (if (wrap64 ((t165.size : Int) - 1)) ≤ (t165.size : Int) then (if 1 ≤ (t167.size : Int) then (if (t165.extract 0 ((wrap64 ((t165.size : Int) - 1)) : Int).toNat).size + (t167.extract 1 t167.size).size ≤ 9223372036854775807 then ((impl_VtUnquote.f ((t165.extract 0 ((wrap64 ((t165.size : Int) - 1)) : Int).toNat) ++ (t167.extract 1 t167.size))).bind fun bt175 => (if (bt175.2 == bt173.2) = true then (if bt175.2 = true then (if bt171.1.size + bt173.1.size ≤ 9223372036854775807 then (some (bt175.1.toList == (bt171.1 ++ bt173.1).toList)) else (none)) else (some true)) else (some false))) else (none)) else (none)) else (none)) else (none))) else ((spec_Unquoted.f kj8 t165).bind fun bt177 => (some (!bt177.2))))) = some r := by rw [if_neg (show ¬ (false = true) by decide)] at H; exact H
              clear H
              have H := H1
              clear H1
              replace H := Option.bind_eq_some_iff.mp H
              obtain ⟨⟨t171, t172⟩, A170, H⟩ := H
              replace H : (if t172 = true then ((impl_VtUnquote.f t167).bind fun bt173 => (if 0 ≤ (wrap64 ((t165.size : Int) - 1)) then (if (wrap64 ((t165.size : Int) - 1)) ≤ (t165.size : Int) then (if 1 ≤ (t167.size : Int) then (if (t165.extract 0 ((wrap64 ((t165.size : Int) - 1)) : Int).toNat).size + (t167.extract 1 t167.size).size ≤ 9223372036854775807 then ((impl_VtUnquote.f ((t165.extract 0 ((wrap64 ((t165.size : Int) - 1)) : Int).toNat) ++ (t167.extract 1 t167.size))).bind fun bt175 => (if (bt175.2 == bt173.2) = true then (if bt175.2 = true then (if t171.size + bt173.1.size ≤ 9223372036854775807 then (some (bt175.1.toList == (t171 ++ bt173.1).toList)) else (none)) else (some true)) else (some false))) else (none)) else (none)) else (none)) else (none))) else ((spec_Unquoted.f kj8 t165).bind fun bt177 => (some (!bt177.2)))) = some r := H
              have A17 := Aside0.mk A170
              clear A170
              by_cases c18 : t172 = true
              · subst c18
                have H1 : ((impl_VtUnquote.f t167).bind fun bt173 => (if 0 ≤ (wrap64 ((t165.size : Int) - 1)) then (if (wrap64 ((t165.size : Int) - 1)) ≤ (t165.size : Int) then (if 1 ≤ (t167.size : Int) then (if (t165.extract 0 ((wrap64 ((t165.size : Int) - 1)) : Int).toNat).size + (t167.extract 1 t167.size).size ≤ 9223372036854775807 then ((impl_VtUnquote.f ((t165.extract 0 ((wrap64 ((t165.size : Int) - 1)) : Int).toNat) ++ (t167.extract 1 t167.size))).bind fun bt175 => (if (bt175.2 == bt173.2) = true then (if bt175.2 = true then (if t171.size + bt173.1.size ≤ 9223372036854775807 then (some (bt175.1.toList == (t171 ++ bt173.1).toList)) else (none)) else (some true)) else (some false))) else (none)) else (none)) else (none)) else (none))) = some r := by rw [if_pos rfl] at H; exact H
                clear H
                have H := H1
                clear H1
                replace H := Option.bind_eq_some_iff.mp H
                obtain ⟨⟨t173, t174⟩, A190, H⟩ := H
                replace H : (if 0 ≤ (wrap64 ((t165.size : Int) - 1)) then (if (wrap64 ((t165.size : Int) - 1)) ≤ (t165.size : Int) then (if 1 ≤ (t167.size : Int) then (if (t165.extract 0 ((wrap64 ((t165.size : Int) - 1)) : Int).toNat).size + (t167.extract 1 t167.size).size ≤ 9223372036854775807 then ((impl_VtUnquote.f ((t165.extract 0 ((wrap64 ((t165.size : Int) - 1)) : Int).toNat) ++ (t167.extract 1 t167.size))).bind fun bt175 => (if (bt175.2 == t174) = true then (if bt175.2 = true then (if t171.size + t173.size ≤ 9223372036854775807 then (some (bt175.1.toList == (t171 ++ t173).toList)) else (none)) else (some true)) else (some false))) else (none)) else (none)) else (none)) else (none)) = some r := H
                have A19 := Aside0.mk A190
                clear A190
                obtain ⟨ji20, hji20⟩ : ∃ j_ : Int, (wrap64 ((t165.size : Int) - 1)) = j_ := ⟨_, rfl⟩
                replace H : (if 0 ≤ (ji20) then (if (ji20) ≤ (t165.size : Int) then (if 1 ≤ (t167.size : Int) then (if (t165.extract 0 ((ji20) : Int).toNat).size + (t167.extract 1 t167.size).size ≤ 9223372036854775807 then ((impl_VtUnquote.f ((t165.extract 0 ((ji20) : Int).toNat) ++ (t167.extract 1 t167.size))).bind fun bt175 => (if (bt175.2 == t174) = true then (if bt175.2 = true then (if t171.size + t173.size ≤ 9223372036854775807 then (some (bt175.1.toList == (t171 ++ t173).toList)) else (none)) else (some true)) else (some false))) else (none)) else (none)) else (none)) else (none)) = some r := by first | (rw [hji20] at H; exact H) | (simp only [hji20] at H ⊢; exact H)
                (try rw [hji20] at A17)
                (try rw [hji20] at A19)
                have hji20w : (IntKind.i64.wrap ((t165.size : Int) - 1)) = ji20 := (i64_w _).trans hji20
                by_cases c21 : 0 ≤ (ji20)
                · rw [if_pos c21] at H
                  have c21b0 := eq_true c21
                  have c21b1 : decide (0 ≤ (ji20)) = true := decide_eq_true c21
                  clear c21
                  by_cases c22 : (ji20) ≤ (t165.size : Int)
                  · rw [if_pos c22] at H
                    have c22b0 := eq_true c22
                    have c22b1 : decide ((ji20) ≤ (t165.size : Int)) = true := decide_eq_true c22
                    clear c22
                    by_cases c23 : 1 ≤ (t167.size : Int)
                    · rw [if_pos c23] at H
                      have c23b0 := eq_true c23
                      have c23b1 : decide (1 ≤ (t167.size : Int)) = true := decide_eq_true c23
                      clear c23
                      by_cases c24 : (t165.extract 0 ((ji20) : Int).toNat).size + (t167.extract 1 t167.size).size ≤ 9223372036854775807
                      · rw [if_pos c24] at H
                        have c24b0 := eq_true c24
                        have c24b1 : decide ((t165.extract 0 ((ji20) : Int).toNat).size + (t167.extract 1 t167.size).size ≤ 9223372036854775807) = true := decide_eq_true c24
                        try have c24b2 : (9223372036854775807 < (t165.extract 0 ((ji20) : Int).toNat).size + (t167.extract 1 t167.size).size) = False := eq_false (Nat.not_lt.2 c24)
                        try (have c24b3 := c24b2; simp only [ByteArray.size_append] at c24b3)
                        try (have c24b4 := c24b3; simp only [show ∀ c : UInt8, (ByteArray.mk #[c]).size = 1 from fun _ => rfl] at c24b4)
                        try have c24b5 := c24b2
                        try simp only [ByteArray.size_append] at c24b5
                        try (try rw [show (t165.extract 0 ((ji20) : Int).toNat).size = ((ji20) : Int).toNat from by (have h_ := of_decide_eq_true (show decide ((ji20) ≤ (t165.size : Int)) = true by first | (with_reducible assumption) | assumption); rw [ByteArray.size_extract]; omega)] at c24b5)
                        try (try rw [show (t167.extract 1 t167.size).size = t167.size - 1 from by (rw [ByteArray.size_extract]; omega)] at c24b5)
                        replace H := Option.bind_eq_some_iff.mp H
                        obtain ⟨⟨t175, t176⟩, A250, H⟩ := H
                        replace H : (if (t176 == t174) = true then (if t176 = true then (if t171.size + t173.size ≤ 9223372036854775807 then (some (t175.toList == (t171 ++ t173).toList)) else (none)) else (some true)) else (some false)) = some r := H
                        have A25 := Aside0.mk A250
                        clear A250
                        by_cases c26 : (t176 == t174) = true
                        · rw [if_pos c26] at H
                          have c26b0 : (t176 == t174) = true := c26
                          (try (have c26b1 : decide (t176 = t174) = true := by simpa using c26))
                          (try (have c26b2 : (t176 == t174) = true := by simpa using c26))
                          clear c26
                          by_cases c27 : t176 = true
                          · subst c27
                            have H1 : (if t171.size + t173.size ≤ 9223372036854775807 then (some (t175.toList == (t171 ++ t173).toList)) else (none)) = some r := by rw [if_pos rfl] at H; exact H
                            clear H
                            have H := H1
                            clear H1
                            by_cases c28 : t171.size + t173.size ≤ 9223372036854775807
                            · rw [if_pos c28] at H
                              have c28b0 := eq_true c28
                              have c28b1 : decide (t171.size + t173.size ≤ 9223372036854775807) = true := decide_eq_true c28
                              try have c28b2 : (9223372036854775807 < t171.size + t173.size) = False := eq_false (Nat.not_lt.2 c28)
                              try (have c28b3 := c28b2; simp only [ByteArray.size_append] at c28b3)
                              try (have c28b4 := c28b3; simp only [show ∀ c : UInt8, (ByteArray.mk #[c]).size = 1 from fun _ => rfl] at c28b4)
                              obtain rfl := Option.some.inj H
                              try go_wp2_with (first | ((with_reducible refine gate_callee (f := 9) rfl ?_); refine goesL_ (some 65) rfl rfl Tryd.func9 (by kernel_rfl) rfl #[.string t165] rfl (by (try simp only [List.map_toArray, List.map_cons, List.map_nil]); first | done | rfl | (simp only [List.length_drop, List.length_take]; rfl)) ?_; (with_reducible refine (impl_VtUnquote.calls t165 t171 true _ (HT.out.below (B := w.heap.size) (by repeat (first | (with_reducible first | exact HB.out | apply below_alloc | apply pw_below_drewN | apply below_drew1) | exact HB.out)) HT9.out) A17.out).mono ?_); rintro e w29 ⟨rfl, hb⟩; refine ⟨_, rfl, ?_⟩; have n0_ := Aside0.mk (below_step (by repeat (first | (with_reducible first | exact HB.out | apply below_alloc | apply pw_below_drewN | apply below_drew1) | exact HB.out)) hb); clear HB; have HB := n0_; clear n0_; (try clear hb); (try clear hb2); (try clear hk); (try clear hi)) | ((with_reducible refine gate_callee (f := 9) rfl ?_); refine goesL_ (some 79) rfl rfl Tryd.func9 (by kernel_rfl) rfl #[.string t167] rfl (by (try simp only [List.map_toArray, List.map_cons, List.map_nil]); first | done | rfl | (simp only [List.length_drop, List.length_take]; rfl)) ?_; (with_reducible refine (impl_VtUnquote.calls t167 t173 t174 _ (HT.out.below (B := w.heap.size) (by repeat (first | (with_reducible first | exact HB.out | apply below_alloc | apply pw_below_drewN | apply below_drew1) | exact HB.out)) HT9.out) A19.out).mono ?_); rintro e w30 ⟨rfl, hb⟩; refine ⟨_, rfl, ?_⟩; have n0_ := Aside0.mk (below_step (by repeat (first | (with_reducible first | exact HB.out | apply below_alloc | apply pw_below_drewN | apply below_drew1) | exact HB.out)) hb); clear HB; have HB := n0_; clear n0_; (try clear hb); (try clear hb2); (try clear hk); (try clear hi)))
                              have n0_ := Aside0.mk (below_drew1 HB.out)
                              clear HB
                              have HB := n0_
                              clear n0_
                              refine start_ (n := 14) (S := fun w' => True) (ds := []) #[false, false, false, false, false, false, false, false, false, false, false, false, false, false] (by kernel_rfl) rfl rfl trivial (fun hHeld => ?_); refine with_tabW laws_FnVtUnquoteJoin.tab12 laws_FnVtUnquoteJoin.bits12 (fun HT_ HW_ => ?_)
                              generalize w30.drew = w31 at HB hHeld ⊢
                              refine pure_ (i := 0) (N := some 83) (v := ?_) (a' := ?_) #[true, false, false, false, false, false, false, false, false, false, false, false, false, false] rfl rfl (any_of HT_.out (by kernel_rfl)) (fun _ _ _ h => h) (Or.inl ⟨by rfl, ?_⟩) ?_ ?_
                              rotate_left
                              · intro w'
                                go_simp
                                with_reducible rfl
                              rotate_left
                              · simp only [Act.put, List.setIfInBounds_toArray, List.set_cons_zero, List.set_cons_succ, i64_w, i32_w]
                                rfl
                              refine pure_ (i := 1) (N := some 84) (v := ?_) (a' := ?_) #[true, true, false, false, false, false, false, false, false, false, false, false, false, false] rfl rfl (any_of HT_.out (by kernel_rfl)) (fun _ _ _ h => h) (Or.inl ⟨by rfl, ?_⟩) ?_ ?_
                              rotate_left
                              · intro w'
                                go_simp
                                with_reducible rfl
                              rotate_left
                              · simp only [Act.put, List.setIfInBounds_toArray, List.set_cons_zero, List.set_cons_succ, i64_w, i32_w]
                                rfl
                              refine pure_ (i := 2) (N := some 85) (v := ?_) (a' := ?_) #[true, true, true, false, false, false, false, false, false, false, false, false, false, false] rfl rfl (any_of HT_.out (by kernel_rfl)) (fun _ _ _ h => h) (Or.inl ⟨by rfl, ?_⟩) ?_ ?_
                              rotate_left
                              · intro w'
                                go_simp
                                with_reducible rfl
                              rotate_left
                              · simp only [Act.put, List.setIfInBounds_toArray, List.set_cons_zero, List.set_cons_succ, i64_w, i32_w]
                                rfl
                              refine pure_ (i := 3) (N := some 86) (v := ?_) (a' := ?_) #[true, true, true, true, false, false, false, false, false, false, false, false, false, false] rfl rfl (any_of HT_.out (by kernel_rfl)) (fun _ _ _ h => h) (Or.inl ⟨by rfl, ?_⟩) ?_ ?_
                              rotate_left
                              · intro w'
                                go_simp
                                with_reducible rfl
                              rotate_left
                              · simp only [Act.put, List.setIfInBounds_toArray, List.set_cons_zero, List.set_cons_succ, i64_w, i32_w]
                                rfl
                              refine pure_ (i := 4) (N := some 87) (v := ?_) (a' := ?_) #[true, true, true, true, true, false, false, false, false, false, false, false, false, false] rfl rfl (any_of HT_.out (by kernel_rfl)) (fun _ _ _ h => h) (Or.inl ⟨by rfl, ?_⟩) ?_ ?_
                              rotate_left
                              · intro w'
                                go_simp
                                with_reducible rfl
                              rotate_left
                              · simp only [Act.put, List.setIfInBounds_toArray, List.set_cons_zero, List.set_cons_succ, i64_w, i32_w]
                                rfl
                              refine pure_ (i := 5) (N := some 88) (v := ?_) (a' := ?_) #[true, true, true, true, true, true, false, false, false, false, false, false, false, false] rfl rfl (any_of HT_.out (by kernel_rfl)) (fun _ _ _ h => h) (Or.inl ⟨by rfl, ?_⟩) ?_ ?_
                              rotate_left
                              · intro w'
                                go_simp
                                with_reducible rfl
                              rotate_left
                              · simp only [Act.put, List.setIfInBounds_toArray, List.set_cons_zero, List.set_cons_succ, i64_w, i32_w]
                                rfl
                              refine pure_ (i := 6) (N := some 89) (v := ?_) (a' := ?_) #[true, true, true, true, true, true, true, false, false, false, false, false, false, false] rfl rfl (any_of HT_.out (by kernel_rfl)) (fun _ _ _ h => h) (Or.inl ⟨by rfl, ?_⟩) ?_ ?_
                              rotate_left
                              · intro w'
                                go_simp
                                with_reducible rfl
                              rotate_left
                              · simp only [Act.put, List.setIfInBounds_toArray, List.set_cons_zero, List.set_cons_succ, i64_w, i32_w]
                                rfl
                              refine pure_ (i := 7) (N := some 90) (v := ?_) (a' := ?_) #[true, true, true, true, true, true, true, true, false, false, false, false, false, false] rfl rfl (any_of HT_.out (by kernel_rfl)) (fun _ _ _ h => h) (Or.inl ⟨by rfl, ?_⟩) ?_ ?_
                              rotate_left
                              · intro w'
                                go_simp
                                with_reducible rfl
                              rotate_left
                              · simp only [Act.put, List.setIfInBounds_toArray, List.set_cons_zero, List.set_cons_succ, i64_w, i32_w]
                                rfl
                              refine one_ (i := 8) (N := some 91) #[true, true, true, true, true, true, true, true, true, false, false, false, false, false] rfl rfl (one_of HT_.out (by kernel_rfl)) (by decide) (fun K hK => ?_)
                              refine goes_ Tryd.func9 (by kernel_rfl) rfl #[.string ((t165.extract 0 ((ji20) : Int).toNat) ++ (t167.extract 1 t167.size))] (by rfl) rfl rfl (by (try simp only [List.map_toArray, List.map_cons, List.map_nil]); first | done | (simp only [hji20]; rfl) | rfl | (simp only [List.length_drop, List.length_take]; rfl)) ?_
                              with_reducible refine (impl_VtUnquote.calls ((t165.extract 0 ((ji20) : Int).toNat) ++ (t167.extract 1 t167.size)) t175 true _ (HT.out.below (B := w.heap.size) (by repeat (first | (with_reducible first | exact HB.out | apply below_alloc | apply pw_below_drewN | apply below_drew1) | exact HB.out)) HT9.out) A25.out).mono ?_
                              rintro e w32 ⟨rfl, hb⟩
                              refine ⟨_, rfl, ?_⟩
                              have n0_ := Aside0.mk (below_step (by repeat (first | (with_reducible first | exact HB.out | apply below_alloc | apply pw_below_drewN | apply below_drew1) | exact HB.out)) hb)
                              clear HB
                              have HB := n0_
                              clear n0_
                              (try clear hb)
                              (try clear hb2)
                              (try clear hk)
                              (try clear hi)
                              refine hK.out _ _ trivial (fun hHeld => ?_)
                              clear hK K
                              refine norm_ (a' := ?_) ?_ ?_
                              rotate_left
                              · show Act.put _ (some 91) _ = _
                                simp only [Act.put, List.setIfInBounds_toArray, List.set_cons_zero, List.set_cons_succ, i64_w, i32_w]
                                rfl
                              refine pure_ (i := 9) (N := some 82) (v := ?_) (a' := ?_) #[true, true, true, true, true, true, true, true, true, true, false, false, false, false] rfl rfl (any_of HT_.out (by kernel_rfl)) (fun _ _ _ h => h) (Or.inl ⟨by rfl, ?_⟩) ?_ ?_
                              rotate_left
                              · intro w'
                                go_simp
                                with_reducible rfl
                              rotate_left
                              · simp only [Act.put, List.setIfInBounds_toArray, List.set_cons_zero, List.set_cons_succ, i64_w, i32_w]
                                rfl
                              refine pure_ (i := 10) (N := some 92) (v := ?_) (a' := ?_) #[true, true, true, true, true, true, true, true, true, true, true, false, false, false] rfl rfl (any_of HT_.out (by kernel_rfl)) (fun _ _ _ h => h) (Or.inl ⟨by rfl, ?_⟩) ?_ ?_
                              rotate_left
                              · intro w'
                                go_simp
                                with_reducible rfl
                              rotate_left
                              · simp only [Act.put, List.setIfInBounds_toArray, List.set_cons_zero, List.set_cons_succ, i64_w, i32_w]
                                rfl
                              refine pure_ (i := 11) (N := some 93) (v := ?_) (a' := ?_) #[true, true, true, true, true, true, true, true, true, true, true, true, false, false] rfl rfl (any_of HT_.out (by kernel_rfl)) (fun _ _ _ h => h) (Or.inl ⟨by rfl, ?_⟩) ?_ ?_
                              rotate_left
                              · intro w'
                                go_simp
                                with_reducible rfl
                              rotate_left
                              · simp only [Act.put, List.setIfInBounds_toArray, List.set_cons_zero, List.set_cons_succ, i64_w, i32_w]
                                rfl
                              refine pure_ (i := 12) (N := some 17) (v := ?_) (a' := ?_) #[true, true, true, true, true, true, true, true, true, true, true, true, true, false] rfl rfl (any_of HT_.out (by kernel_rfl)) (fun _ _ _ h => h) (Or.inl ⟨by rfl, ?_⟩) ?_ ?_
                              rotate_left
                              · intro w'
                                go_simp
                                with_reducible rfl
                              rotate_left
                              · simp only [Act.put, List.setIfInBounds_toArray, List.set_cons_zero, List.set_cons_succ, i64_w, i32_w]
                                rfl
                              refine pure_ (i := 13) (N := some 18) (v := ?_) (a' := ?_) #[true, true, true, true, true, true, true, true, true, true, true, true, true, true] rfl rfl (any_of HT_.out (by kernel_rfl)) (fun _ _ _ h => h) (Or.inl ⟨by rfl, ?_⟩) ?_ ?_
                              rotate_left
                              · intro w'
                                go_simp
                                with_reducible rfl
                              rotate_left
                              · simp only [Act.put, List.setIfInBounds_toArray, List.set_cons_zero, List.set_cons_succ, i64_w, i32_w]
                                rfl
                              refine done_ (done_of HT_.out (by kernel_rfl)) ?_
                              try go_wp2
                              go_ret
                              exact ⟨by first | rfl | (simp [errW_none, errW_some] <;> rfl) | (simp only [← hji20]; first | rfl | (simp [errW_none, errW_some] <;> rfl)) | (simp [*, errW_none, errW_some] <;> rfl), by repeat (first | (with_reducible first | exact HB.out | apply below_alloc | apply pw_below_drewN | apply below_drew1) | exact HB.out)⟩
                            · rw [if_neg c28] at H
                              exact absurd H (by simp)
                          · replace c27 := Bool.eq_false_iff.mpr c27
                            subst c27
                            have H1 : (some true) = some r := by rw [if_neg (show ¬ (false = true) by decide)] at H; exact H
                            clear H
                            have H := H1
                            clear H1
                            obtain rfl := Option.some.inj H
                            try go_wp2_with (first | ((with_reducible refine gate_callee (f := 9) rfl ?_); refine goesL_ (some 65) rfl rfl Tryd.func9 (by kernel_rfl) rfl #[.string t165] rfl (by (try simp only [List.map_toArray, List.map_cons, List.map_nil]); first | done | rfl | (simp only [List.length_drop, List.length_take]; rfl)) ?_; (with_reducible refine (impl_VtUnquote.calls t165 t171 true _ (HT.out.below (B := w.heap.size) (by repeat (first | (with_reducible first | exact HB.out | apply below_alloc | apply pw_below_drewN | apply below_drew1) | exact HB.out)) HT9.out) A17.out).mono ?_); rintro e w33 ⟨rfl, hb⟩; refine ⟨_, rfl, ?_⟩; have n0_ := Aside0.mk (below_step (by repeat (first | (with_reducible first | exact HB.out | apply below_alloc | apply pw_below_drewN | apply below_drew1) | exact HB.out)) hb); clear HB; have HB := n0_; clear n0_; (try clear hb); (try clear hb2); (try clear hk); (try clear hi)) | ((with_reducible refine gate_callee (f := 9) rfl ?_); refine goesL_ (some 79) rfl rfl Tryd.func9 (by kernel_rfl) rfl #[.string t167] rfl (by (try simp only [List.map_toArray, List.map_cons, List.map_nil]); first | done | rfl | (simp only [List.length_drop, List.length_take]; rfl)) ?_; (with_reducible refine (impl_VtUnquote.calls t167 t173 t174 _ (HT.out.below (B := w.heap.size) (by repeat (first | (with_reducible first | exact HB.out | apply below_alloc | apply pw_below_drewN | apply below_drew1) | exact HB.out)) HT9.out) A19.out).mono ?_); rintro e w34 ⟨rfl, hb⟩; refine ⟨_, rfl, ?_⟩; have n0_ := Aside0.mk (below_step (by repeat (first | (with_reducible first | exact HB.out | apply below_alloc | apply pw_below_drewN | apply below_drew1) | exact HB.out)) hb); clear HB; have HB := n0_; clear n0_; (try clear hb); (try clear hb2); (try clear hk); (try clear hi)))
                            have n0_ := Aside0.mk (below_drew1 HB.out)
                            clear HB
                            have HB := n0_
                            clear n0_
                            refine start_ (n := 14) (S := fun w' => True) (ds := []) #[false, false, false, false, false, false, false, false, false, false, false, false, false, false] (by kernel_rfl) rfl rfl trivial (fun hHeld => ?_); refine with_tabW laws_FnVtUnquoteJoin.tab12 laws_FnVtUnquoteJoin.bits12 (fun HT_ HW_ => ?_)
                            generalize w34.drew = w35 at HB hHeld ⊢
                            refine pure_ (i := 0) (N := some 83) (v := ?_) (a' := ?_) #[true, false, false, false, false, false, false, false, false, false, false, false, false, false] rfl rfl (any_of HT_.out (by kernel_rfl)) (fun _ _ _ h => h) (Or.inl ⟨by rfl, ?_⟩) ?_ ?_
                            rotate_left
                            · intro w'
                              go_simp
                              with_reducible rfl
                            rotate_left
                            · simp only [Act.put, List.setIfInBounds_toArray, List.set_cons_zero, List.set_cons_succ, i64_w, i32_w]
                              rfl
                            refine pure_ (i := 1) (N := some 84) (v := ?_) (a' := ?_) #[true, true, false, false, false, false, false, false, false, false, false, false, false, false] rfl rfl (any_of HT_.out (by kernel_rfl)) (fun _ _ _ h => h) (Or.inl ⟨by rfl, ?_⟩) ?_ ?_
                            rotate_left
                            · intro w'
                              go_simp
                              with_reducible rfl
                            rotate_left
                            · simp only [Act.put, List.setIfInBounds_toArray, List.set_cons_zero, List.set_cons_succ, i64_w, i32_w]
                              rfl
                            refine pure_ (i := 2) (N := some 85) (v := ?_) (a' := ?_) #[true, true, true, false, false, false, false, false, false, false, false, false, false, false] rfl rfl (any_of HT_.out (by kernel_rfl)) (fun _ _ _ h => h) (Or.inl ⟨by rfl, ?_⟩) ?_ ?_
                            rotate_left
                            · intro w'
                              go_simp
                              with_reducible rfl
                            rotate_left
                            · simp only [Act.put, List.setIfInBounds_toArray, List.set_cons_zero, List.set_cons_succ, i64_w, i32_w]
                              rfl
                            refine pure_ (i := 3) (N := some 86) (v := ?_) (a' := ?_) #[true, true, true, true, false, false, false, false, false, false, false, false, false, false] rfl rfl (any_of HT_.out (by kernel_rfl)) (fun _ _ _ h => h) (Or.inl ⟨by rfl, ?_⟩) ?_ ?_
                            rotate_left
                            · intro w'
                              go_simp
                              with_reducible rfl
                            rotate_left
                            · simp only [Act.put, List.setIfInBounds_toArray, List.set_cons_zero, List.set_cons_succ, i64_w, i32_w]
                              rfl
                            refine pure_ (i := 4) (N := some 87) (v := ?_) (a' := ?_) #[true, true, true, true, true, false, false, false, false, false, false, false, false, false] rfl rfl (any_of HT_.out (by kernel_rfl)) (fun _ _ _ h => h) (Or.inl ⟨by rfl, ?_⟩) ?_ ?_
                            rotate_left
                            · intro w'
                              go_simp
                              with_reducible rfl
                            rotate_left
                            · simp only [Act.put, List.setIfInBounds_toArray, List.set_cons_zero, List.set_cons_succ, i64_w, i32_w]
                              rfl
                            refine pure_ (i := 5) (N := some 88) (v := ?_) (a' := ?_) #[true, true, true, true, true, true, false, false, false, false, false, false, false, false] rfl rfl (any_of HT_.out (by kernel_rfl)) (fun _ _ _ h => h) (Or.inl ⟨by rfl, ?_⟩) ?_ ?_
                            rotate_left
                            · intro w'
                              go_simp
                              with_reducible rfl
                            rotate_left
                            · simp only [Act.put, List.setIfInBounds_toArray, List.set_cons_zero, List.set_cons_succ, i64_w, i32_w]
                              rfl
                            refine pure_ (i := 6) (N := some 89) (v := ?_) (a' := ?_) #[true, true, true, true, true, true, true, false, false, false, false, false, false, false] rfl rfl (any_of HT_.out (by kernel_rfl)) (fun _ _ _ h => h) (Or.inl ⟨by rfl, ?_⟩) ?_ ?_
                            rotate_left
                            · intro w'
                              go_simp
                              with_reducible rfl
                            rotate_left
                            · simp only [Act.put, List.setIfInBounds_toArray, List.set_cons_zero, List.set_cons_succ, i64_w, i32_w]
                              rfl
                            refine pure_ (i := 7) (N := some 90) (v := ?_) (a' := ?_) #[true, true, true, true, true, true, true, true, false, false, false, false, false, false] rfl rfl (any_of HT_.out (by kernel_rfl)) (fun _ _ _ h => h) (Or.inl ⟨by rfl, ?_⟩) ?_ ?_
                            rotate_left
                            · intro w'
                              go_simp
                              with_reducible rfl
                            rotate_left
                            · simp only [Act.put, List.setIfInBounds_toArray, List.set_cons_zero, List.set_cons_succ, i64_w, i32_w]
                              rfl
                            refine one_ (i := 8) (N := some 91) #[true, true, true, true, true, true, true, true, true, false, false, false, false, false] rfl rfl (one_of HT_.out (by kernel_rfl)) (by decide) (fun K hK => ?_)
                            refine goes_ Tryd.func9 (by kernel_rfl) rfl #[.string ((t165.extract 0 ((ji20) : Int).toNat) ++ (t167.extract 1 t167.size))] (by rfl) rfl rfl (by (try simp only [List.map_toArray, List.map_cons, List.map_nil]); first | done | (simp only [hji20]; rfl) | rfl | (simp only [List.length_drop, List.length_take]; rfl)) ?_
                            with_reducible refine (impl_VtUnquote.calls ((t165.extract 0 ((ji20) : Int).toNat) ++ (t167.extract 1 t167.size)) t175 false _ (HT.out.below (B := w.heap.size) (by repeat (first | (with_reducible first | exact HB.out | apply below_alloc | apply pw_below_drewN | apply below_drew1) | exact HB.out)) HT9.out) A25.out).mono ?_
                            rintro e w36 ⟨rfl, hb⟩
                            refine ⟨_, rfl, ?_⟩
                            have n0_ := Aside0.mk (below_step (by repeat (first | (with_reducible first | exact HB.out | apply below_alloc | apply pw_below_drewN | apply below_drew1) | exact HB.out)) hb)
                            clear HB
                            have HB := n0_
                            clear n0_
                            (try clear hb)
                            (try clear hb2)
                            (try clear hk)
                            (try clear hi)
                            refine hK.out _ _ trivial (fun hHeld => ?_)
                            clear hK K
                            refine norm_ (a' := ?_) ?_ ?_
                            rotate_left
                            · show Act.put _ (some 91) _ = _
                              simp only [Act.put, List.setIfInBounds_toArray, List.set_cons_zero, List.set_cons_succ, i64_w, i32_w]
                              rfl
                            refine pure_ (i := 9) (N := some 82) (v := ?_) (a' := ?_) #[true, true, true, true, true, true, true, true, true, true, false, false, false, false] rfl rfl (any_of HT_.out (by kernel_rfl)) (fun _ _ _ h => h) (Or.inl ⟨by rfl, ?_⟩) ?_ ?_
                            rotate_left
                            · intro w'
                              go_simp
                              with_reducible rfl
                            rotate_left
                            · simp only [Act.put, List.setIfInBounds_toArray, List.set_cons_zero, List.set_cons_succ, i64_w, i32_w]
                              rfl
                            refine pure_ (i := 10) (N := some 92) (v := ?_) (a' := ?_) #[true, true, true, true, true, true, true, true, true, true, true, false, false, false] rfl rfl (any_of HT_.out (by kernel_rfl)) (fun _ _ _ h => h) (Or.inl ⟨by rfl, ?_⟩) ?_ ?_
                            rotate_left
                            · intro w'
                              go_simp
                              with_reducible rfl
                            rotate_left
                            · simp only [Act.put, List.setIfInBounds_toArray, List.set_cons_zero, List.set_cons_succ, i64_w, i32_w]
                              rfl
                            refine pure_ (i := 11) (N := some 93) (v := ?_) (a' := ?_) #[true, true, true, true, true, true, true, true, true, true, true, true, false, false] rfl rfl (any_of HT_.out (by kernel_rfl)) (fun _ _ _ h => h) (Or.inl ⟨by rfl, ?_⟩) ?_ ?_
                            rotate_left
                            · intro w'
                              go_simp
                              with_reducible rfl
                            rotate_left
                            · simp only [Act.put, List.setIfInBounds_toArray, List.set_cons_zero, List.set_cons_succ, i64_w, i32_w]
                              rfl
                            refine pure_ (i := 12) (N := some 17) (v := ?_) (a' := ?_) #[true, true, true, true, true, true, true, true, true, true, true, true, true, false] rfl rfl (any_of HT_.out (by kernel_rfl)) (fun _ _ _ h => h) (Or.inl ⟨by rfl, ?_⟩) ?_ ?_
                            rotate_left
                            · intro w'
                              go_simp
                              with_reducible rfl
                            rotate_left
                            · simp only [Act.put, List.setIfInBounds_toArray, List.set_cons_zero, List.set_cons_succ, i64_w, i32_w]
                              rfl
                            refine pure_ (i := 13) (N := some 18) (v := ?_) (a' := ?_) #[true, true, true, true, true, true, true, true, true, true, true, true, true, true] rfl rfl (any_of HT_.out (by kernel_rfl)) (fun _ _ _ h => h) (Or.inl ⟨by rfl, ?_⟩) ?_ ?_
                            rotate_left
                            · intro w'
                              go_simp
                              with_reducible rfl
                            rotate_left
                            · simp only [Act.put, List.setIfInBounds_toArray, List.set_cons_zero, List.set_cons_succ, i64_w, i32_w]
                              rfl
                            refine done_ (done_of HT_.out (by kernel_rfl)) ?_
                            try go_wp2
                            go_ret
                            exact ⟨by first | rfl | (simp [errW_none, errW_some] <;> rfl) | (simp only [← hji20]; first | rfl | (simp [errW_none, errW_some] <;> rfl)) | (simp [*, errW_none, errW_some] <;> rfl), by repeat (first | (with_reducible first | exact HB.out | apply below_alloc | apply pw_below_drewN | apply below_drew1) | exact HB.out)⟩
                        · rw [if_neg c26] at H
                          have c26b0 : (t176 == t174) = false := by simpa using c26
                          (try (have c26b1 : decide (t176 = t174) = false := by simpa using c26))
                          (try (have c26b2 : (t176 == t174) = false := by simpa using c26))
                          (try (have c26b3 : ¬ (t176 = t174) := by simpa using c26))
                          clear c26
                          obtain rfl := Option.some.inj H
                          try go_wp2_with (first | ((with_reducible refine gate_callee (f := 9) rfl ?_); refine goesL_ (some 65) rfl rfl Tryd.func9 (by kernel_rfl) rfl #[.string t165] rfl (by (try simp only [List.map_toArray, List.map_cons, List.map_nil]); first | done | rfl | (simp only [List.length_drop, List.length_take]; rfl)) ?_; (with_reducible refine (impl_VtUnquote.calls t165 t171 true _ (HT.out.below (B := w.heap.size) (by repeat (first | (with_reducible first | exact HB.out | apply below_alloc | apply pw_below_drewN | apply below_drew1) | exact HB.out)) HT9.out) A17.out).mono ?_); rintro e w37 ⟨rfl, hb⟩; refine ⟨_, rfl, ?_⟩; have n0_ := Aside0.mk (below_step (by repeat (first | (with_reducible first | exact HB.out | apply below_alloc | apply pw_below_drewN | apply below_drew1) | exact HB.out)) hb); clear HB; have HB := n0_; clear n0_; (try clear hb); (try clear hb2); (try clear hk); (try clear hi)) | ((with_reducible refine gate_callee (f := 9) rfl ?_); refine goesL_ (some 79) rfl rfl Tryd.func9 (by kernel_rfl) rfl #[.string t167] rfl (by (try simp only [List.map_toArray, List.map_cons, List.map_nil]); first | done | rfl | (simp only [List.length_drop, List.length_take]; rfl)) ?_; (with_reducible refine (impl_VtUnquote.calls t167 t173 t174 _ (HT.out.below (B := w.heap.size) (by repeat (first | (with_reducible first | exact HB.out | apply below_alloc | apply pw_below_drewN | apply below_drew1) | exact HB.out)) HT9.out) A19.out).mono ?_); rintro e w38 ⟨rfl, hb⟩; refine ⟨_, rfl, ?_⟩; have n0_ := Aside0.mk (below_step (by repeat (first | (with_reducible first | exact HB.out | apply below_alloc | apply pw_below_drewN | apply below_drew1) | exact HB.out)) hb); clear HB; have HB := n0_; clear n0_; (try clear hb); (try clear hb2); (try clear hk); (try clear hi)))
                          have n0_ := Aside0.mk (below_drew1 HB.out)
                          clear HB
                          have HB := n0_
                          clear n0_
                          refine start_ (n := 14) (S := fun w' => True) (ds := []) #[false, false, false, false, false, false, false, false, false, false, false, false, false, false] (by kernel_rfl) rfl rfl trivial (fun hHeld => ?_); refine with_tabW laws_FnVtUnquoteJoin.tab12 laws_FnVtUnquoteJoin.bits12 (fun HT_ HW_ => ?_)
                          generalize w38.drew = w39 at HB hHeld ⊢
                          refine pure_ (i := 0) (N := some 83) (v := ?_) (a' := ?_) #[true, false, false, false, false, false, false, false, false, false, false, false, false, false] rfl rfl (any_of HT_.out (by kernel_rfl)) (fun _ _ _ h => h) (Or.inl ⟨by rfl, ?_⟩) ?_ ?_
                          rotate_left
                          · intro w'
                            go_simp
                            with_reducible rfl
                          rotate_left
                          · simp only [Act.put, List.setIfInBounds_toArray, List.set_cons_zero, List.set_cons_succ, i64_w, i32_w]
                            rfl
                          refine pure_ (i := 1) (N := some 84) (v := ?_) (a' := ?_) #[true, true, false, false, false, false, false, false, false, false, false, false, false, false] rfl rfl (any_of HT_.out (by kernel_rfl)) (fun _ _ _ h => h) (Or.inl ⟨by rfl, ?_⟩) ?_ ?_
                          rotate_left
                          · intro w'
                            go_simp
                            with_reducible rfl
                          rotate_left
                          · simp only [Act.put, List.setIfInBounds_toArray, List.set_cons_zero, List.set_cons_succ, i64_w, i32_w]
                            rfl
                          refine pure_ (i := 2) (N := some 85) (v := ?_) (a' := ?_) #[true, true, true, false, false, false, false, false, false, false, false, false, false, false] rfl rfl (any_of HT_.out (by kernel_rfl)) (fun _ _ _ h => h) (Or.inl ⟨by rfl, ?_⟩) ?_ ?_
                          rotate_left
                          · intro w'
                            go_simp
                            with_reducible rfl
                          rotate_left
                          · simp only [Act.put, List.setIfInBounds_toArray, List.set_cons_zero, List.set_cons_succ, i64_w, i32_w]
                            rfl
                          refine pure_ (i := 3) (N := some 86) (v := ?_) (a' := ?_) #[true, true, true, true, false, false, false, false, false, false, false, false, false, false] rfl rfl (any_of HT_.out (by kernel_rfl)) (fun _ _ _ h => h) (Or.inl ⟨by rfl, ?_⟩) ?_ ?_
                          rotate_left
                          · intro w'
                            go_simp
                            with_reducible rfl
                          rotate_left
                          · simp only [Act.put, List.setIfInBounds_toArray, List.set_cons_zero, List.set_cons_succ, i64_w, i32_w]
                            rfl
                          refine pure_ (i := 4) (N := some 87) (v := ?_) (a' := ?_) #[true, true, true, true, true, false, false, false, false, false, false, false, false, false] rfl rfl (any_of HT_.out (by kernel_rfl)) (fun _ _ _ h => h) (Or.inl ⟨by rfl, ?_⟩) ?_ ?_
                          rotate_left
                          · intro w'
                            go_simp
                            with_reducible rfl
                          rotate_left
                          · simp only [Act.put, List.setIfInBounds_toArray, List.set_cons_zero, List.set_cons_succ, i64_w, i32_w]
                            rfl
                          refine pure_ (i := 5) (N := some 88) (v := ?_) (a' := ?_) #[true, true, true, true, true, true, false, false, false, false, false, false, false, false] rfl rfl (any_of HT_.out (by kernel_rfl)) (fun _ _ _ h => h) (Or.inl ⟨by rfl, ?_⟩) ?_ ?_
                          rotate_left
                          · intro w'
                            go_simp
                            with_reducible rfl
                          rotate_left
                          · simp only [Act.put, List.setIfInBounds_toArray, List.set_cons_zero, List.set_cons_succ, i64_w, i32_w]
                            rfl
                          refine pure_ (i := 6) (N := some 89) (v := ?_) (a' := ?_) #[true, true, true, true, true, true, true, false, false, false, false, false, false, false] rfl rfl (any_of HT_.out (by kernel_rfl)) (fun _ _ _ h => h) (Or.inl ⟨by rfl, ?_⟩) ?_ ?_
                          rotate_left
                          · intro w'
                            go_simp
                            with_reducible rfl
                          rotate_left
                          · simp only [Act.put, List.setIfInBounds_toArray, List.set_cons_zero, List.set_cons_succ, i64_w, i32_w]
                            rfl
                          refine pure_ (i := 7) (N := some 90) (v := ?_) (a' := ?_) #[true, true, true, true, true, true, true, true, false, false, false, false, false, false] rfl rfl (any_of HT_.out (by kernel_rfl)) (fun _ _ _ h => h) (Or.inl ⟨by rfl, ?_⟩) ?_ ?_
                          rotate_left
                          · intro w'
                            go_simp
                            with_reducible rfl
                          rotate_left
                          · simp only [Act.put, List.setIfInBounds_toArray, List.set_cons_zero, List.set_cons_succ, i64_w, i32_w]
                            rfl
                          refine one_ (i := 8) (N := some 91) #[true, true, true, true, true, true, true, true, true, false, false, false, false, false] rfl rfl (one_of HT_.out (by kernel_rfl)) (by decide) (fun K hK => ?_)
                          refine goes_ Tryd.func9 (by kernel_rfl) rfl #[.string ((t165.extract 0 ((ji20) : Int).toNat) ++ (t167.extract 1 t167.size))] (by rfl) rfl rfl (by (try simp only [List.map_toArray, List.map_cons, List.map_nil]); first | done | (simp only [hji20]; rfl) | rfl | (simp only [List.length_drop, List.length_take]; rfl)) ?_
                          with_reducible refine (impl_VtUnquote.calls ((t165.extract 0 ((ji20) : Int).toNat) ++ (t167.extract 1 t167.size)) t175 t176 _ (HT.out.below (B := w.heap.size) (by repeat (first | (with_reducible first | exact HB.out | apply below_alloc | apply pw_below_drewN | apply below_drew1) | exact HB.out)) HT9.out) A25.out).mono ?_
                          rintro e w40 ⟨rfl, hb⟩
                          refine ⟨_, rfl, ?_⟩
                          have n0_ := Aside0.mk (below_step (by repeat (first | (with_reducible first | exact HB.out | apply below_alloc | apply pw_below_drewN | apply below_drew1) | exact HB.out)) hb)
                          clear HB
                          have HB := n0_
                          clear n0_
                          (try clear hb)
                          (try clear hb2)
                          (try clear hk)
                          (try clear hi)
                          refine hK.out _ _ trivial (fun hHeld => ?_)
                          clear hK K
                          refine norm_ (a' := ?_) ?_ ?_
                          rotate_left
                          · show Act.put _ (some 91) _ = _
                            simp only [Act.put, List.setIfInBounds_toArray, List.set_cons_zero, List.set_cons_succ, i64_w, i32_w]
                            rfl
                          refine pure_ (i := 9) (N := some 82) (v := ?_) (a' := ?_) #[true, true, true, true, true, true, true, true, true, true, false, false, false, false] rfl rfl (any_of HT_.out (by kernel_rfl)) (fun _ _ _ h => h) (Or.inl ⟨by rfl, ?_⟩) ?_ ?_
                          rotate_left
                          · intro w'
                            go_simp
                            with_reducible rfl
                          rotate_left
                          · simp only [Act.put, List.setIfInBounds_toArray, List.set_cons_zero, List.set_cons_succ, i64_w, i32_w]
                            rfl
                          refine pure_ (i := 10) (N := some 92) (v := ?_) (a' := ?_) #[true, true, true, true, true, true, true, true, true, true, true, false, false, false] rfl rfl (any_of HT_.out (by kernel_rfl)) (fun _ _ _ h => h) (Or.inl ⟨by rfl, ?_⟩) ?_ ?_
                          rotate_left
                          · intro w'
                            go_simp
                            with_reducible rfl
                          rotate_left
                          · simp only [Act.put, List.setIfInBounds_toArray, List.set_cons_zero, List.set_cons_succ, i64_w, i32_w]
                            rfl
                          refine pure_ (i := 11) (N := some 93) (v := ?_) (a' := ?_) #[true, true, true, true, true, true, true, true, true, true, true, true, false, false] rfl rfl (any_of HT_.out (by kernel_rfl)) (fun _ _ _ h => h) (Or.inl ⟨by rfl, ?_⟩) ?_ ?_
                          rotate_left
                          · intro w'
                            go_simp
                            with_reducible rfl
                          rotate_left
                          · simp only [Act.put, List.setIfInBounds_toArray, List.set_cons_zero, List.set_cons_succ, i64_w, i32_w]
                            rfl
                          refine pure_ (i := 12) (N := some 17) (v := ?_) (a' := ?_) #[true, true, true, true, true, true, true, true, true, true, true, true, true, false] rfl rfl (any_of HT_.out (by kernel_rfl)) (fun _ _ _ h => h) (Or.inl ⟨by rfl, ?_⟩) ?_ ?_
                          rotate_left
                          · intro w'
                            go_simp
                            with_reducible rfl
                          rotate_left
                          · simp only [Act.put, List.setIfInBounds_toArray, List.set_cons_zero, List.set_cons_succ, i64_w, i32_w]
                            rfl
                          refine pure_ (i := 13) (N := some 18) (v := ?_) (a' := ?_) #[true, true, true, true, true, true, true, true, true, true, true, true, true, true] rfl rfl (any_of HT_.out (by kernel_rfl)) (fun _ _ _ h => h) (Or.inl ⟨by rfl, ?_⟩) ?_ ?_
                          rotate_left
                          · intro w'
                            go_simp
                            with_reducible rfl
                          rotate_left
                          · simp only [Act.put, List.setIfInBounds_toArray, List.set_cons_zero, List.set_cons_succ, i64_w, i32_w]
                            rfl
                          refine done_ (done_of HT_.out (by kernel_rfl)) ?_
                          try go_wp2
                          go_ret
                          exact ⟨by first | rfl | (simp [errW_none, errW_some] <;> rfl) | (simp only [← hji20]; first | rfl | (simp [errW_none, errW_some] <;> rfl)) | (simp [*, errW_none, errW_some] <;> rfl), by repeat (first | (with_reducible first | exact HB.out | apply below_alloc | apply pw_below_drewN | apply below_drew1) | exact HB.out)⟩
                      · rw [if_neg c24] at H
                        exact absurd H (by simp)
                    · rw [if_neg c23] at H
                      exact absurd H (by simp)
                  · rw [if_neg c22] at H
                    exact absurd H (by simp)
                · rw [if_neg c21] at H
                  exact absurd H (by simp)
              · replace c18 := Bool.eq_false_iff.mpr c18
                subst c18
                have H1 : ((spec_Unquoted.f kj8 t165).bind fun bt177 => (some (!bt177.2))) = some r := by rw [if_neg (show ¬ (false = true) by decide)] at H; exact H
                clear H
                have H := H1
                clear H1
                replace H := Option.bind_eq_some_iff.mp H
                obtain ⟨⟨t177, t178⟩, A410, H⟩ := H
                replace H : (some (!t178)) = some r := H
                have A41 := Aside0.mk A410
                clear A410
                obtain rfl := Option.some.inj H
                go_wp2_with (first | ((with_reducible refine gate_callee (f := 9) rfl ?_); refine goesL_ (some 65) rfl rfl Tryd.func9 (by kernel_rfl) rfl #[.string t165] rfl (by (try simp only [List.map_toArray, List.map_cons, List.map_nil]); first | done | rfl | (simp only [List.length_drop, List.length_take]; rfl)) ?_; (with_reducible refine (impl_VtUnquote.calls t165 t171 false _ (HT.out.below (B := w.heap.size) (by repeat (first | (with_reducible first | exact HB.out | apply below_alloc | apply pw_below_drewN | apply below_drew1) | exact HB.out)) HT9.out) A17.out).mono ?_); rintro e w42 ⟨rfl, hb⟩; refine ⟨_, rfl, ?_⟩; have n0_ := Aside0.mk (below_step (by repeat (first | (with_reducible first | exact HB.out | apply below_alloc | apply pw_below_drewN | apply below_drew1) | exact HB.out)) hb); clear HB; have HB := n0_; clear n0_; (try clear hb); (try clear hb2); (try clear hk); (try clear hi)) | ((with_reducible refine gate_callee (f := 8) rfl ?_); refine goesL_ (some 72) rfl rfl Tryd.func8 (by kernel_rfl) rfl #[.string t165] rfl (by (try simp only [List.map_toArray, List.map_cons, List.map_nil]); first | done | rfl | (simp only [List.length_drop, List.length_take]; rfl)) ?_; (with_reducible refine (spec_Unquoted.calls kj8 t165 t177 t178 _ A41.out).mono ?_); rintro e w43 ⟨rfl, hb⟩; refine ⟨_, rfl, ?_⟩; have n0_ := Aside0.mk (below_step (by repeat (first | (with_reducible first | exact HB.out | apply below_alloc | apply pw_below_drewN | apply below_drew1) | exact HB.out)) hb); clear HB; have HB := n0_; clear n0_; (try clear hb); (try clear hb2); (try clear hk); (try clear hi)))
                go_ret
                exact ⟨by first | rfl | (simp [errW_none, errW_some] <;> rfl) | (simp [*, errW_none, errW_some] <;> rfl), by repeat (first | (with_reducible first | exact HB.out | apply below_alloc | apply pw_below_drewN | apply below_drew1) | exact HB.out)⟩

end Go.Proofs.YthhehbocbhhbbaaDoor.Q
