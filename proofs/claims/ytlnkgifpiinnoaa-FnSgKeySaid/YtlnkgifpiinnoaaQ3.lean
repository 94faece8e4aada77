-- Written by a program of this session out of the translation; Lean checks it.
import Derived.Test.YtlnkgifpiinnoaaQ0
import Derived.Test.YtlnkgifpiinnoaaQ1
import Derived.Test.YtlnkgifpiinnoaaQ2
namespace Go.Proofs.Ytlnkgifpiinnoaa.Q
open Go.RowKit Go.Proofs.Ytlnkgifpiinnoaa.Ky Go.Proofs.YtlnkgifpiinnoaaW.PrintWords Go.Proofs.YtlnkgifpiinnoaaW.PrintLast Go.Proofs.YtlnkgifpiinnoaaW.PrintMore
attribute [local go_sem] max2_int min2_int max_two min_two max_three min_three max_four min_four   -- for this text's walks alone
set_option linter.unusedVariables false
set_option linter.unusedSimpArgs false

/-! ### spec_complete: function 17 -/
def spec_complete.f (k : Nat) (a0 : ByteArray) : Option (Int) := (spec_Complete.f k a0 32 32 32).bind fun t106 => (some t106)
theorem spec_complete.mono : ∀ a0 k, LeO (spec_complete.f k a0) (spec_complete.f (k + 1) a0) := by
  intro a0 k
  unfold spec_complete.f
  repeat' first
      | (with_reducible exact spec_Complete.mono _ _ _ _ _)
      | (with_reducible exact LeO.refl _)
      | (with_reducible exact LeO.none _)
      | (with_reducible refine LeO.ite ?_ ?_)
      | (with_reducible refine LeO.bind ?_ (fun _ => ?_))
      | exact spec_Complete.mono _ _ _ _ _
      | exact LeO.none _
      | refine LeO.ite ?_ ?_
      | refine LeO.bind ?_ (fun _ => ?_)
set_option maxHeartbeats 8000000 in
set_option maxRecDepth 100000 in
theorem spec_complete.calls (k : Nat) (a0 : ByteArray) (r : Int) (w : World) (h : spec_complete.f k a0 = some r) :
    Calls Try.prog 17 #[.string a0] w fun e w' => e = .returned (.int .i64 r) ∧ Drawn0 w w' := by
  have H : ((spec_Complete.f k a0 32 32 32).bind fun t106 => (some t106)) = some r := h
  clear h
  replace H := Option.bind_eq_some_iff.mp H
  obtain ⟨t106, A20, H⟩ := H
  replace H : (some t106) = some r := H
  have A2 := Aside0.mk A20
  clear A20
  obtain rfl := Option.some.inj H
  go_enter Try.func17, Try.ntmps17
  go_wp2_with (first | ((with_reducible refine gate_callee (f := 26) rfl ?_); refine goesL_ (some 4) rfl rfl Try.func26 (by kernel_rfl) rfl #[.string a0, .int .i64 32, .int .i64 32, .int .i64 32] rfl (by (try simp only [List.map_toArray, List.map_cons, List.map_nil]); first | done | rfl | (simp only [List.length_drop, List.length_take]; rfl)) ?_; (with_reducible refine (spec_Complete.calls k a0 32 32 32 t106 _ A2.out).mono ?_); rintro e w' ⟨rfl, ⟨nd, rfl⟩⟩; refine ⟨_, rfl, ?_⟩))
  go_ret
  exact ⟨by first | rfl | (simp; done) | (simp [*]; done), by repeat (first | exact Drawn0.refl _ | apply Drawn0.step)⟩

/-! ### spec_Types: function 13 -/
def spec_Types.l0 : Nat → ByteArray → List ByteArray → Option (List ByteArray × Bool)
  | 0, _, _ => none
  | k + 1, x0, x4 => if x0.toList = ([] : List UInt8) then (some (x4, true)) else ((spec_complete.f k x0).bind fun t107 => (if t107 = 0 then (some (([] : List ByteArray), false)) else (if 0 ≤ t107 then (if t107 ≤ (x0.size : Int) then (if x4.length < 8796093022208 then (spec_Types.l0 k (x0.extract (t107 : Int).toNat x0.size) (x4 ++ [x0.extract 0 (t107 : Int).toNat])) else (none)) else (none)) else (none))))
def spec_Types.f (k : Nat) (a0 : ByteArray) : Option (List ByteArray × Bool) := if (a0.size : Int) > 255 then (some (([] : List ByteArray), false)) else (spec_Types.l0 k a0 ([] : List ByteArray))
theorem spec_Types.mono_l : ∀ k, (∀ y0 y1, LeO (spec_Types.l0 k y0 y1) (spec_Types.l0 (k + 1) y0 y1))
  | 0 => fun _ _ r h => by simp [spec_Types.l0] at h
  | k + 1 => by
    have ih0 := spec_Types.mono_l k
    · intro y0 y1
      unfold spec_Types.l0
      repeat' first
      | (with_reducible exact ih0 _ _)
      | (with_reducible exact spec_complete.mono _ _)
      | (with_reducible exact LeO.refl _)
      | (with_reducible exact LeO.none _)
      | (with_reducible refine LeO.ite ?_ ?_)
      | (with_reducible refine LeO.bind ?_ (fun _ => ?_))
      | exact ih0 _ _
      | exact spec_complete.mono _ _
      | exact LeO.none _
      | refine LeO.ite ?_ ?_
      | refine LeO.bind ?_ (fun _ => ?_)
theorem spec_Types.mono : ∀ a0 k, LeO (spec_Types.f k a0) (spec_Types.f (k + 1) a0) := by
  intro a0 k
  have ih0 := spec_Types.mono_l k
  unfold spec_Types.f
  repeat' first
      | (with_reducible exact ih0 _ _)
      | (with_reducible exact spec_complete.mono _ _)
      | (with_reducible exact LeO.refl _)
      | (with_reducible exact LeO.none _)
      | (with_reducible refine LeO.ite ?_ ?_)
      | (with_reducible refine LeO.bind ?_ (fun _ => ?_))
      | exact ih0 _ _
      | exact spec_complete.mono _ _
      | exact LeO.none _
      | refine LeO.ite ?_ ?_
      | refine LeO.bind ?_ (fun _ => ?_)
set_option maxHeartbeats 8000000 in
set_option maxRecDepth 100000 in
theorem spec_Types.calls (k : Nat) (a0 : ByteArray) (r1 : List ByteArray) (r2 : Bool) (w : World) (h : spec_Types.f k a0 = some (r1, r2)) :
    Calls Try.prog 13 #[.string a0] w fun e w' => ∃ v0_ : Value, e = .returned (.tuple #[v0_, .bool r2]) ∧ Kd.R Kd.string 9 w' w.heap.size (fun _ => True) v0_ r1 ∧ Below w.heap.size w w' := by
  have HB := Aside0.mk (Below.refl w.heap.size w)
  have H : (if (a0.size : Int) > 255 then (some (([] : List ByteArray), false)) else (spec_Types.l0 k a0 ([] : List ByteArray))) = some (r1, r2) := h
  clear h
  by_cases c2 : (a0.size : Int) > 255
  · rw [if_pos c2] at H
    have c2b0 : decide (255 < (a0.size : Int)) = true := decide_eq_true c2
    have c2b1 : decide (255 < a0.size) = true := decide_eq_true (by omega)
    clear c2
    simp only [Option.some.injEq, Prod.mk.injEq] at H
    obtain ⟨rfl, rfl⟩ := H
    go_enter Try.func13, Try.ntmps13
    go_wp2
    go_ret2
    exact ⟨_, by first | rfl | (simp [errW_none, errW_some] <;> rfl) | (simp [*, errW_none, errW_some] <;> rfl), by first | exact Kd.R_nil _ _ _ _ _ | exact Kd.N_nil _ _ _ _ _ | exact Kd.V_nil _ _ _ _ _ | exact Kd.Q_nil _ _ _ _ _ | exact Kd.S_nil _ _ _ _ _, by repeat (first | (with_reducible first | exact HB.out | apply below_alloc | apply pw_below_drewN | apply below_drew1) | exact HB.out)⟩
  · rw [if_neg c2] at H
    have c2b0 : decide (255 < (a0.size : Int)) = false := decide_eq_false c2
    have c2b1 : decide (255 < a0.size) = false := decide_eq_false (by omega)
    clear c2
    have H' := Aside0.mk H
    clear H
    go_enter Try.func13, Try.ntmps13
    go_wp2
    go_loopg [0, 4] k (fun kq v0 v4 w' => ∃ (x0_1 : ByteArray) (x4_1 : List ByteArray), v0 = .string x0_1 ∧ Aside0 (spec_Types.l0 kq x0_1 x4_1 = some (r1, r2)) ∧ Aside0 (kq ≤ k) ∧ Aside0 (Kd.R Kd.string 9 w' w.heap.size (fun _ => True) v4 x4_1) ∧ Aside0 (Below w.heap.size w w'))
    case atStart => exact ⟨(a0), (([] : List ByteArray)), (by first | rfl | (simp; done) | (simp [*]; done)), H', ⟨Nat.le_refl _⟩, ⟨by first | exact Kd.R_nil _ _ _ _ _ | exact Kd.N_nil _ _ _ _ _ | exact Kd.V_nil _ _ _ _ _ | exact Kd.Q_nil _ _ _ _ _ | exact Kd.S_nil _ _ _ _ _⟩, ⟨by repeat (first | (with_reducible first | exact HB.out | apply below_alloc | apply pw_below_drewN | apply below_drew1) | exact HB.out)⟩⟩
    case round =>
      clear H'
      try clear c1
      try clear c2
      try clear c2b0
      try clear c2b1
      try clear p2
      obtain ⟨x0_1, x4_1, rfl, HA, HK1, HO_4, HB⟩ := hrel
      cases gk with
      | zero => exact absurd HA.out (by simp [spec_Types.l0])
      | succ k1 =>
        have H := HA.out
        clear HA
        simp only [spec_Types.l0] at H
        by_cases c3 : x0_1.toList = ([] : List UInt8)
        · rw [if_pos c3] at H
          have c3b0 : (x0_1.toList == ([] : List UInt8)) = true := beq_iff_eq.mpr c3
          have c3b1 : (x0_1.toList != ([] : List UInt8)) = false := bne_eq_false_iff_eq.mpr c3
          clear c3
          simp only [Option.some.injEq, Prod.mk.injEq] at H
          obtain ⟨rfl, rfl⟩ := H
          go_wp2
          go_ret2
          exact ⟨_, by first | rfl | (simp [errW_none, errW_some] <;> rfl) | (simp [*, errW_none, errW_some] <;> rfl), by (with_reducible repeat (first | apply Kd.R_alloc | apply Kd.R_drewN | apply Kd.R_drew)); exact HO_4.out, by repeat (first | (with_reducible first | exact HB.out | apply below_alloc | apply pw_below_drewN | apply below_drew1) | exact HB.out)⟩
        · rw [if_neg c3] at H
          have c3b0 : (x0_1.toList == ([] : List UInt8)) = false := beq_eq_false_iff_ne.mpr c3
          have c3b1 : (x0_1.toList != ([] : List UInt8)) = true := bne_iff_ne.mpr c3
          replace H := Option.bind_eq_some_iff.mp H
          obtain ⟨t107, A40, H⟩ := H
          replace H : (if t107 = 0 then (some (([] : List ByteArray), false)) else (if 0 ≤ t107 then (if t107 ≤ (x0_1.size : Int) then (if x4_1.length < 8796093022208 then (spec_Types.l0 k1 (x0_1.extract (t107 : Int).toNat x0_1.size) (x4_1 ++ [x0_1.extract 0 (t107 : Int).toNat])) else (none)) else (none)) else (none))) = some (r1, r2) := H
          have A4 := Aside0.mk A40
          clear A40
          by_cases c5 : t107 = 0
          · rw [if_pos c5] at H
            have c5b0 : (t107 == 0) = true := beq_iff_eq.mpr c5
            have c5b1 : (t107 != 0) = false := bne_eq_false_iff_eq.mpr c5
            clear c5
            simp only [Option.some.injEq, Prod.mk.injEq] at H
            obtain ⟨rfl, rfl⟩ := H
            go_wp2_with (first | ((with_reducible refine gate_callee (f := 17) rfl ?_); refine goesL_ (some 12) rfl rfl Try.func17 (by kernel_rfl) rfl #[.string x0_1] rfl (by (try simp only [List.map_toArray, List.map_cons, List.map_nil]); first | done | rfl | (simp only [List.length_drop, List.length_take]; rfl)) ?_; (with_reducible refine (spec_complete.calls k1 x0_1 t107 _ A4.out).mono ?_); rintro e w' ⟨rfl, ⟨nd, rfl⟩⟩; refine ⟨_, rfl, ?_⟩))
            go_ret2
            exact ⟨_, by first | rfl | (simp [errW_none, errW_some] <;> rfl) | (simp [*, errW_none, errW_some] <;> rfl), by first | exact Kd.R_nil _ _ _ _ _ | exact Kd.N_nil _ _ _ _ _ | exact Kd.V_nil _ _ _ _ _ | exact Kd.Q_nil _ _ _ _ _ | exact Kd.S_nil _ _ _ _ _, by repeat (first | (with_reducible first | exact HB.out | apply below_alloc | apply pw_below_drewN | apply below_drew1) | exact HB.out)⟩
          · rw [if_neg c5] at H
            have c5b0 : (t107 == 0) = false := beq_eq_false_iff_ne.mpr c5
            have c5b1 : (t107 != 0) = true := bne_iff_ne.mpr c5
            by_cases c6 : 0 ≤ t107
            · rw [if_pos c6] at H
              have c6b0 := eq_true c6
              have c6b1 : decide (0 ≤ t107) = true := decide_eq_true c6
              clear c6
              by_cases c7 : t107 ≤ (x0_1.size : Int)
              · rw [if_pos c7] at H
                have c7b0 := eq_true c7
                have c7b1 : decide (t107 ≤ (x0_1.size : Int)) = true := decide_eq_true c7
                clear c7
                by_cases c8 : x4_1.length < 8796093022208
                · rw [if_pos c8] at H
                  have LMc8 := Aside0.mk c8
                  clear c8
                  obtain ⟨y108, hy108⟩ : ∃ y_ : List ByteArray, y_ = (x4_1 ++ [x0_1.extract 0 (t107 : Int).toNat]) := ⟨_, rfl⟩
                  replace H : (spec_Types.l0 k1 (x0_1.extract (t107 : Int).toNat x0_1.size) y108) = some (r1, r2) := by first | (rw [hy108]; with_reducible exact H) | (have H2_ := (Option.bind_some _ _).symm.trans H; rw [hy108]; with_reducible exact H2_) | (have H2_ := (Option.bind_some _ _).symm.trans H; with_reducible exact H2_) | with_reducible exact H | (rw [hy108]; exact H) | exact H
                  have Ny108 := Aside0.mk hy108
                  clear hy108
                  have c9b0 := eq_true (of_decide_eq_true (by first | (with_reducible assumption) | assumption) : 0 ≤ t107)
                  have c10b0 := eq_true (of_decide_eq_true (by first | (with_reducible assumption) | assumption) : t107 ≤ (x0_1.size : Int))
                  have H' := Aside0.mk H
                  clear H
                  go_wp2_with (first | ((with_reducible refine gate_callee (f := 17) rfl ?_); refine goesL_ (some 12) rfl rfl Try.func17 (by kernel_rfl) rfl #[.string x0_1] rfl (by (try simp only [List.map_toArray, List.map_cons, List.map_nil]); first | done | rfl | (simp only [List.length_drop, List.length_take]; rfl)) ?_; (with_reducible refine (spec_complete.calls k1 x0_1 t107 _ A4.out).mono ?_); rintro e w' ⟨rfl, ⟨nd, rfl⟩⟩; refine ⟨_, rfl, ?_⟩) | ((with_reducible refine gate_builtin (b := .append) (xs := #[.tmp 15, .tmp 19]) rfl ?_); at_builtin; refine Kd.R_append Kd.string (w0 := w) w.heap.size rfl (.tmp 15) (.tmp 19) 25 9 (.string ⟨#[]⟩) 16 rfl Try.underlying25 info9 rfl (by decide) (by omega) u4 x4_1 (x0_1.extract 0 (t107 : Int).toNat) [.string (x0_1.extract 0 (t107 : Int).toNat)] (fun _ => True) (fun _ => False) rfl rfl ?aP (fun _ hk => hk.elim) ?aF ?aO ?aB ?aS ?aL ?_; (case aP => exact rfl); (case aB => exact (by repeat (first | (with_reducible first | exact HB.out | apply below_alloc | apply pw_below_drewN | apply below_drew1) | exact HB.out))); (case aF => exact (fun _ _ => trivial)); (case aO => exact (by (with_reducible repeat (first | apply Kd.R_alloc | apply Kd.R_drewN | apply Kd.R_drew)); exact HO_4.out)); (case aS => exact (below_size (by repeat (first | (with_reducible first | exact HB.out | apply below_alloc | apply pw_below_drewN | apply below_drew1) | exact HB.out)))); (case aL => have := LMc8.out; omega); intro v109 w11 ho hb hg hat; rw [← Ny108.out] at ho; have n0_ := Aside0.mk (hb); have n1_ := Aside0.mk (ho); clear HB; clear HO_4; have HB := n0_; have HO110 := n1_; clear n0_ n1_; clear ho hb hg hat))
                  go_roundg k1
                  case measure => have := HK1.out; omega
                  case rel => exact ⟨(x0_1.extract (t107 : Int).toNat x0_1.size), (y108), (by first | rfl | (simp; done) | (simp [*]; done)), H', ⟨by have := HK1.out; omega⟩, ⟨by (with_reducible repeat (first | apply Kd.R_alloc | apply Kd.R_drewN | apply Kd.R_drew)); exact HO110.out⟩, ⟨by repeat (first | (with_reducible first | exact HB.out | apply below_alloc | apply pw_below_drewN | apply below_drew1) | exact HB.out)⟩⟩
                · rw [if_neg c8] at H
                  exact absurd H (by simp)
              · rw [if_neg c7] at H
                exact absurd H (by simp)
            · rw [if_neg c6] at H
              exact absurd H (by simp)

/-! ### spec_Single: function 5 -/
def spec_Single.f (k : Nat) (a0 : ByteArray) : Option (Bool) := (spec_Types.f k a0).bind fun bt111 => (if bt111.2 = true then (some ((bt111.1.length : Int) == 1)) else (some false))
theorem spec_Single.mono : ∀ a0 k, LeO (spec_Single.f k a0) (spec_Single.f (k + 1) a0) := by
  intro a0 k
  unfold spec_Single.f
  repeat' first
      | (with_reducible exact spec_Types.mono _ _)
      | (with_reducible exact LeO.refl _)
      | (with_reducible exact LeO.none _)
      | (with_reducible refine LeO.ite ?_ ?_)
      | (with_reducible refine LeO.bind ?_ (fun _ => ?_))
      | exact spec_Types.mono _ _
      | exact LeO.none _
      | refine LeO.ite ?_ ?_
      | refine LeO.bind ?_ (fun _ => ?_)
set_option maxHeartbeats 8000000 in
set_option maxRecDepth 100000 in
theorem spec_Single.calls (k : Nat) (a0 : ByteArray) (r : Bool) (w : World) (h : spec_Single.f k a0 = some r) :
    Calls Try.prog 5 #[.string a0] w fun e w' => e = .returned (.bool r) ∧ Below w.heap.size w w' := by
  have HB := Aside0.mk (Below.refl w.heap.size w)
  have H : ((spec_Types.f k a0).bind fun bt111 => (if bt111.2 = true then (some ((bt111.1.length : Int) == 1)) else (some false))) = some r := h
  clear h
  replace H := Option.bind_eq_some_iff.mp H
  obtain ⟨⟨t111, t112⟩, A20, H⟩ := H
  replace H : (if t112 = true then (some ((t111.length : Int) == 1)) else (some false)) = some r := H
  have A2 := Aside0.mk A20
  clear A20
  by_cases c3 : t112 = true
  · subst c3
    have H1 : (some ((t111.length : Int) == 1)) = some r := by rw [if_pos rfl] at H; exact H
    clear H
    have H := H1
    clear H1
    obtain rfl := Option.some.inj H
    go_enter Try.func5, Try.ntmps5
    go_wp2_with (first | ((with_reducible refine gate_callee (f := 13) rfl ?_); refine goesL_ (some 7) rfl rfl Try.func13 (by kernel_rfl) rfl #[.string a0] rfl (by (try simp only [List.map_toArray, List.map_cons, List.map_nil]); first | done | rfl | (simp only [List.length_drop, List.length_take]; rfl)) ?_; (with_reducible refine (spec_Types.calls k a0 t111 true _ A2.out).mono ?_); rintro e w4 ⟨v113, rfl, ho0, hb⟩; refine ⟨_, rfl, ?_⟩; have n0_ := Aside0.mk (Kd.R_lower ho0 (below_size (by repeat (first | (with_reducible first | exact HB.out | apply below_alloc | apply pw_below_drewN | apply below_drew1) | exact HB.out)))); have n1_ := Aside0.mk (below_step (by repeat (first | (with_reducible first | exact HB.out | apply below_alloc | apply pw_below_drewN | apply below_drew1) | exact HB.out)) hb); clear HB; have HO114 := n0_; have HB := n1_; clear n0_ n1_; (try clear hb); (try clear hb2); (try clear hk); (try clear hi); (try clear ho0); obtain ⟨Ao5, co5, eo5⟩ := Kd.R_slice HO114.out; subst eo5))
    go_ret
    exact ⟨by first | rfl | (simp [errW_none, errW_some] <;> rfl) | (simp [*, errW_none, errW_some] <;> rfl), by repeat (first | (with_reducible first | exact HB.out | apply below_alloc | apply pw_below_drewN | apply below_drew1) | exact HB.out)⟩
  · replace c3 := Bool.eq_false_iff.mpr c3
    subst c3
    have H1 : (some false) = some r := by rw [if_neg (show ¬ (false = true) by decide)] at H; exact H
    clear H
    have H := H1
    clear H1
    obtain rfl := Option.some.inj H
    go_enter Try.func5, Try.ntmps5
    go_wp2_with (first | ((with_reducible refine gate_callee (f := 13) rfl ?_); refine goesL_ (some 7) rfl rfl Try.func13 (by kernel_rfl) rfl #[.string a0] rfl (by (try simp only [List.map_toArray, List.map_cons, List.map_nil]); first | done | rfl | (simp only [List.length_drop, List.length_take]; rfl)) ?_; (with_reducible refine (spec_Types.calls k a0 t111 false _ A2.out).mono ?_); rintro e w6 ⟨v113, rfl, ho0, hb⟩; refine ⟨_, rfl, ?_⟩; have n0_ := Aside0.mk (Kd.R_lower ho0 (below_size (by repeat (first | (with_reducible first | exact HB.out | apply below_alloc | apply pw_below_drewN | apply below_drew1) | exact HB.out)))); have n1_ := Aside0.mk (below_step (by repeat (first | (with_reducible first | exact HB.out | apply below_alloc | apply pw_below_drewN | apply below_drew1) | exact HB.out)) hb); clear HB; have HO114 := n0_; have HB := n1_; clear n0_ n1_; (try clear hb); (try clear hb2); (try clear hk); (try clear hi); (try clear ho0)))
    go_ret
    exact ⟨by first | rfl | (simp [errW_none, errW_some] <;> rfl) | (simp [*, errW_none, errW_some] <;> rfl), by repeat (first | (with_reducible first | exact HB.out | apply below_alloc | apply pw_below_drewN | apply below_drew1) | exact HB.out)⟩

-- BY HAND: function 14 (dbus_DoorKey), in Derived.Test.YtlnkgifpiinnoaaKy

/-! ### impl_SgKey: function 6 -/
def impl_SgKey.f (a0 : ByteArray) : Option (Bool) := (dbus_DoorKey.f a0).bind fun t115 => (some t115)
set_option maxHeartbeats 8000000 in
set_option maxRecDepth 100000 in
theorem impl_SgKey.calls (a0 : ByteArray) (r : Bool) (w : World) (h : impl_SgKey.f a0 = some r) :
    Calls Try.prog 6 #[.string a0] w fun e w' => e = .returned (.bool r) ∧ Below w.heap.size w w' := by
  have HB := Aside0.mk (Below.refl w.heap.size w)
  have H : ((dbus_DoorKey.f a0).bind fun t115 => (some t115)) = some r := h
  clear h
  replace H := Option.bind_eq_some_iff.mp H
  obtain ⟨t115, A20, H⟩ := H
  replace H : (some t115) = some r := H
  have A2 := Aside0.mk A20
  clear A20
  obtain rfl := Option.some.inj H
  go_enter Try.func6, Try.ntmps6
  go_wp2_with (first | ((with_reducible refine gate_callee (f := 14) rfl ?_); refine goesL_ (some 4) rfl rfl Try.func14 (by kernel_rfl) rfl #[.string a0] rfl (by (try simp only [List.map_toArray, List.map_cons, List.map_nil]); first | done | rfl | (simp only [List.length_drop, List.length_take]; rfl)) ?_; (with_reducible refine (dbus_DoorKey.calls a0 t115 _ A2.out).mono ?_); rintro e w3 ⟨rfl, hb⟩; refine ⟨_, rfl, ?_⟩; have n0_ := Aside0.mk (below_step (by repeat (first | (with_reducible first | exact HB.out | apply below_alloc | apply pw_below_drewN | apply below_drew1) | exact HB.out)) hb); clear HB; have HB := n0_; clear n0_; (try clear hb); (try clear hb2); (try clear hk); (try clear hi)))
  go_ret
  exact ⟨by first | rfl | (simp [errW_none, errW_some] <;> rfl) | (simp [*, errW_none, errW_some] <;> rfl), by repeat (first | (with_reducible first | exact HB.out | apply below_alloc | apply pw_below_drewN | apply below_drew1) | exact HB.out)⟩

/-! ### laws_FnSgKey: function 3 -/
mutual
def laws_FnSgKey.j0 : Nat → ByteArray → Bool → Option (Bool)
  | 0, _, _ => none
  | k + 1, x0, x18 => if x18 = true then (some true) else ((some (([121, 110, 113, 105, 117, 120, 116, 100, 115, 111, 104] : List Int) : List Int)).bind fun y117 => (laws_FnSgKey.l0 k x0 y117 (y117.length : Int) 0))
def laws_FnSgKey.l0 : Nat → ByteArray → List Int → Int → Int → Option (Bool)
  | 0, _, _, _, _ => none
  | k + 1, x0, x20, x21, x22 => if x22 < x21 then (if 0 ≤ x22 then (if x22 < (x20.length : Int) then ((impl_SgKey.f (strOfNums (([rd x20 x22] : List Int)))).bind fun t124 => (if t124 = true then (laws_FnSgKey.l0 k x0 x20 x21 (wrap64 (x22 + 1))) else (some false))) else (none)) else (none)) else ((impl_SgKey.f x0).bind fun t125 => (if 0 < (x0.size : Int) then ((spec_Basic.f (bt x0 0)).bind fun t126 => (some (t125 == t126))) else (none)))
end
def laws_FnSgKey.f (k : Nat) (a0 : ByteArray) : Option (Bool) := if (a0.size : Int) > 2147483647 then (some true) else ((spec_Single.f k a0).bind fun t116 => (if t116 = true then (if a0.toList = ([98] : List UInt8) then (laws_FnSgKey.j0 k a0 true) else (laws_FnSgKey.j0 k a0 (a0.toList == ([103] : List UInt8)))) else (laws_FnSgKey.j0 k a0 true)))
theorem laws_FnSgKey.mono_l : ∀ k, (∀ y0 y1, LeO (laws_FnSgKey.j0 k y0 y1) (laws_FnSgKey.j0 (k + 1) y0 y1)) ∧ (∀ y0 y1 y2 y3, LeO (laws_FnSgKey.l0 k y0 y1 y2 y3) (laws_FnSgKey.l0 (k + 1) y0 y1 y2 y3))
  | 0 => ⟨fun _ _ r h => by simp [laws_FnSgKey.j0] at h, fun _ _ _ _ r h => by simp [laws_FnSgKey.l0] at h⟩
  | k + 1 => by
    obtain ⟨ih0, ih1⟩ := laws_FnSgKey.mono_l k
    refine ⟨?_, ?_⟩
    · intro y0 y1
      unfold laws_FnSgKey.j0
      repeat' first
      | (with_reducible exact ih0 _ _)
      | (with_reducible exact ih1 _ _ _ _)
      | (with_reducible exact spec_Single.mono _ _)
      | (with_reducible exact LeO.refl _)
      | (with_reducible exact LeO.none _)
      | (with_reducible refine LeO.ite ?_ ?_)
      | (with_reducible refine LeO.bind ?_ (fun _ => ?_))
      | exact ih0 _ _
      | exact ih1 _ _ _ _
      | exact spec_Single.mono _ _
      | exact LeO.none _
      | refine LeO.ite ?_ ?_
      | refine LeO.bind ?_ (fun _ => ?_)
    · intro y0 y1 y2 y3
      unfold laws_FnSgKey.l0
      repeat' first
      | (with_reducible exact ih0 _ _)
      | (with_reducible exact ih1 _ _ _ _)
      | (with_reducible exact spec_Single.mono _ _)
      | (with_reducible exact LeO.refl _)
      | (with_reducible exact LeO.none _)
      | (with_reducible refine LeO.ite ?_ ?_)
      | (with_reducible refine LeO.bind ?_ (fun _ => ?_))
      | exact ih0 _ _
      | exact ih1 _ _ _ _
      | exact spec_Single.mono _ _
      | exact LeO.none _
      | refine LeO.ite ?_ ?_
      | refine LeO.bind ?_ (fun _ => ?_)
theorem laws_FnSgKey.mono : ∀ a0 k, LeO (laws_FnSgKey.f k a0) (laws_FnSgKey.f (k + 1) a0) := by
  intro a0 k
  obtain ⟨ih0, ih1⟩ := laws_FnSgKey.mono_l k
  unfold laws_FnSgKey.f
  repeat' first
      | (with_reducible exact ih0 _ _)
      | (with_reducible exact ih1 _ _ _ _)
      | (with_reducible exact spec_Single.mono _ _)
      | (with_reducible exact LeO.refl _)
      | (with_reducible exact LeO.none _)
      | (with_reducible refine LeO.ite ?_ ?_)
      | (with_reducible refine LeO.bind ?_ (fun _ => ?_))
      | exact ih0 _ _
      | exact ih1 _ _ _ _
      | exact spec_Single.mono _ _
      | exact LeO.none _
      | refine LeO.ite ?_ ?_
      | refine LeO.bind ?_ (fun _ => ?_)
set_option maxHeartbeats 8000000 in
set_option maxRecDepth 100000 in
theorem laws_FnSgKey.calls (k : Nat) (a0 : ByteArray) (r : Bool) (w : World) (h : laws_FnSgKey.f k a0 = some r) :
    Calls Try.prog 3 #[.string a0] w fun e w' => e = .returned (.bool r) ∧ Below w.heap.size w w' := by
  have HB := Aside0.mk (Below.refl w.heap.size w)
  have H : (if (a0.size : Int) > 2147483647 then (some true) else ((spec_Single.f k a0).bind fun t116 => (if t116 = true then (if a0.toList = ([98] : List UInt8) then (laws_FnSgKey.j0 k a0 true) else (laws_FnSgKey.j0 k a0 (a0.toList == ([103] : List UInt8)))) else (laws_FnSgKey.j0 k a0 true)))) = some r := h
  clear h
  by_cases c2 : (a0.size : Int) > 2147483647
  · rw [if_pos c2] at H
    have c2b0 : decide (2147483647 < (a0.size : Int)) = true := decide_eq_true c2
    have c2b1 : decide (2147483647 < a0.size) = true := decide_eq_true (by omega)
    clear c2
    obtain rfl := Option.some.inj H
    go_enter Try.func3, Try.ntmps3
    go_wp2
    go_ret
    exact ⟨by first | rfl | (simp [errW_none, errW_some] <;> rfl) | (simp [*, errW_none, errW_some] <;> rfl), by repeat (first | (with_reducible first | exact HB.out | apply below_alloc | apply pw_below_drewN | apply below_drew1) | exact HB.out)⟩
  · rw [if_neg c2] at H
    have c2b0 : decide (2147483647 < (a0.size : Int)) = false := decide_eq_false c2
    have c2b1 : decide (2147483647 < a0.size) = false := decide_eq_false (by omega)
    clear c2
    have HC3 := Aside0.mk H
    clear H
    go_enter Try.func3, Try.ntmps3
    go_upto_region 3 with (fail)
    go_cut [18] (fun v18 wc => ∃ (kq : Nat) (x18_2 : Bool), v18 = .bool x18_2 ∧ Aside0 (laws_FnSgKey.j0 kq a0 x18_2 = some r) ∧ Aside0 (kq ≤ k) ∧ Aside0 (Below w.heap.size w wc))
    case first =>
      have H := HC3.out
      clear HC3
      replace H := Option.bind_eq_some_iff.mp H
      obtain ⟨t116, A40, H⟩ := H
      replace H : (if t116 = true then (if a0.toList = ([98] : List UInt8) then (laws_FnSgKey.j0 k a0 true) else (laws_FnSgKey.j0 k a0 (a0.toList == ([103] : List UInt8)))) else (laws_FnSgKey.j0 k a0 true)) = some r := H
      have A4 := Aside0.mk A40
      clear A40
      by_cases c5 : t116 = true
      · subst c5
        have H1 : (if a0.toList = ([98] : List UInt8) then (laws_FnSgKey.j0 k a0 true) else (laws_FnSgKey.j0 k a0 (a0.toList == ([103] : List UInt8)))) = some r := by rw [if_pos rfl] at H; exact H
        clear H
        have H := H1
        clear H1
        by_cases c6 : a0.toList = ([98] : List UInt8)
        · rw [if_pos c6] at H
          have c6b0 : (a0.toList == ([98] : List UInt8)) = true := beq_iff_eq.mpr c6
          have c6b1 : (a0.toList != ([98] : List UInt8)) = false := bne_eq_false_iff_eq.mpr c6
          clear c6
          (first | rw [c6b0] | (simp only [i64_w, i32_w]; rw [c6b0]) | skip)
          have H' := Aside0.mk H
          clear H
          go_wp2_with (first | ((with_reducible refine gate_callee (f := 5) rfl ?_); refine goesL_ (some 9) rfl rfl Try.func5 (by kernel_rfl) rfl #[.string a0] rfl (by (try simp only [List.map_toArray, List.map_cons, List.map_nil]); first | done | rfl | (simp only [List.length_drop, List.length_take]; rfl)) ?_; (with_reducible refine (spec_Single.calls k a0 true _ A4.out).mono ?_); rintro e w7 ⟨rfl, hb⟩; refine ⟨_, rfl, ?_⟩; have n0_ := Aside0.mk (below_step (by repeat (first | (with_reducible first | exact HB.out | apply below_alloc | apply pw_below_drewN | apply below_drew1) | exact HB.out)) hb); clear HB; have HB := n0_; clear n0_; (try clear hb); (try clear hb2); (try clear hk); (try clear hi)))
          go_meet
          case rel => exact ⟨_, (true), (by first | rfl | (simp; done) | (simp [*]; done)), H', ⟨by first | omega | exact Nat.le_refl _⟩, ⟨by repeat (first | (with_reducible first | exact HB.out | apply below_alloc | apply pw_below_drewN | apply below_drew1) | exact HB.out)⟩⟩
        · rw [if_neg c6] at H
          have c6b0 : (a0.toList == ([98] : List UInt8)) = false := beq_eq_false_iff_ne.mpr c6
          have c6b1 : (a0.toList != ([98] : List UInt8)) = true := bne_iff_ne.mpr c6
          (first | rw [c6b0] | (simp only [i64_w, i32_w]; rw [c6b0]) | skip)
          have H' := Aside0.mk H
          clear H
          go_wp2_with (first | ((with_reducible refine gate_callee (f := 5) rfl ?_); refine goesL_ (some 9) rfl rfl Try.func5 (by kernel_rfl) rfl #[.string a0] rfl (by (try simp only [List.map_toArray, List.map_cons, List.map_nil]); first | done | rfl | (simp only [List.length_drop, List.length_take]; rfl)) ?_; (with_reducible refine (spec_Single.calls k a0 true _ A4.out).mono ?_); rintro e w8 ⟨rfl, hb⟩; refine ⟨_, rfl, ?_⟩; have n0_ := Aside0.mk (below_step (by repeat (first | (with_reducible first | exact HB.out | apply below_alloc | apply pw_below_drewN | apply below_drew1) | exact HB.out)) hb); clear HB; have HB := n0_; clear n0_; (try clear hb); (try clear hb2); (try clear hk); (try clear hi)))
          go_meet
          case rel => exact ⟨_, ((a0.toList == ([103] : List UInt8))), (by first | rfl | (simp; done) | (simp [*]; done)), H', ⟨by first | omega | exact Nat.le_refl _⟩, ⟨by repeat (first | (with_reducible first | exact HB.out | apply below_alloc | apply pw_below_drewN | apply below_drew1) | exact HB.out)⟩⟩
      · replace c5 := Bool.eq_false_iff.mpr c5
        subst c5
        have H1 : (laws_FnSgKey.j0 k a0 true) = some r := by rw [if_neg (show ¬ (false = true) by decide)] at H; exact H
        clear H
        have H := H1
        clear H1
        have H' := Aside0.mk H
        clear H
        go_wp2_with (first | ((with_reducible refine gate_callee (f := 5) rfl ?_); refine goesL_ (some 9) rfl rfl Try.func5 (by kernel_rfl) rfl #[.string a0] rfl (by (try simp only [List.map_toArray, List.map_cons, List.map_nil]); first | done | rfl | (simp only [List.length_drop, List.length_take]; rfl)) ?_; (with_reducible refine (spec_Single.calls k a0 false _ A4.out).mono ?_); rintro e w9 ⟨rfl, hb⟩; refine ⟨_, rfl, ?_⟩; have n0_ := Aside0.mk (below_step (by repeat (first | (with_reducible first | exact HB.out | apply below_alloc | apply pw_below_drewN | apply below_drew1) | exact HB.out)) hb); clear HB; have HB := n0_; clear n0_; (try clear hb); (try clear hb2); (try clear hk); (try clear hi)))
        go_meet
        case rel => exact ⟨_, (true), (by first | rfl | (simp; done) | (simp [*]; done)), H', ⟨by first | omega | exact Nat.le_refl _⟩, ⟨by repeat (first | (with_reducible first | exact HB.out | apply below_alloc | apply pw_below_drewN | apply below_drew1) | exact HB.out)⟩⟩
    case rest =>
      clear HC3
      try clear c2
      try clear c2b0
      try clear c2b1
      try clear p2
      try clear c3
      try clear c5
      try clear c6
      try clear c6b0
      try clear c6b1
      obtain ⟨kq, x18_2, rfl, HA, HJ2, HB⟩ := hcut
      cases kq with
      | zero => exact absurd HA.out (by simp [laws_FnSgKey.j0])
      | succ kj2 =>
        have H := HA.out
        clear HA
        simp only [laws_FnSgKey.j0] at H
        by_cases c10 : x18_2 = true
        · subst c10
          have H1 : (some true) = some r := by rw [if_pos rfl] at H; exact H
          clear H
          have H := H1
          clear H1
          obtain rfl := Option.some.inj H
          go_wp2
          go_ret
          exact ⟨by first | rfl | (simp [errW_none, errW_some] <;> rfl) | (simp [*, errW_none, errW_some] <;> rfl), by repeat (first | (with_reducible first | exact HB.out | apply below_alloc | apply pw_below_drewN | apply below_drew1) | exact HB.out)⟩
        · replace c10 := Bool.eq_false_iff.mpr c10
          subst c10
          have H1 : ((some (([121, 110, 113, 105, 117, 120, 116, 100, 115, 111, 104] : List Int) : List Int)).bind fun y117 => (laws_FnSgKey.l0 kj2 a0 y117 (y117.length : Int) 0)) = some r := by rw [if_neg (show ¬ (false = true) by decide)] at H; exact H
          clear H
          have H := H1
          clear H1
          obtain ⟨y117, hy117⟩ : ∃ y_ : List Int, y_ = (([121, 110, 113, 105, 117, 120, 116, 100, 115, 111, 104] : List Int)) := ⟨_, rfl⟩
          replace H : (laws_FnSgKey.l0 kj2 a0 y117 (y117.length : Int) 0) = some r := by first | (rw [hy117]; with_reducible exact H) | (have H2_ := (Option.bind_some _ _).symm.trans H; rw [hy117]; with_reducible exact H2_) | (have H2_ := (Option.bind_some _ _).symm.trans H; with_reducible exact H2_) | with_reducible exact H | (rw [hy117]; exact H) | exact H
          have Ny117 := Aside0.mk hy117
          clear hy117
          have H' := Aside0.mk H
          clear H
          go_wp2_with (first | ((with_reducible refine gate_dst (N := 19) rfl ?_); refine Kd.R_lit (Kd.int .u8) _ 5 ?hg (N := 19) ?hd (xs := ([121, 110, 113, 105, 117, 120, 116, 100, 115, 111, 104] : List Int)) (inner := [.int .u8 121, .int .u8 110, .int .u8 113, .int .u8 105, .int .u8 117, .int .u8 120, .int .u8 116, .int .u8 100, .int .u8 115, .int .u8 111, .int .u8 104]) (ok := fun _ => True) (okp := fun _ => True) ?hr ?hp (fun _ hk => hk) trivial (Below.refl _ _) (Nat.le_refl _) (by simp) ?_; (case hd => rfl); (case hg => rfl); (case hr => first | (go_simp; done) | (go_simp; rfl)); (case hp => exact (Reps.one (show Kd.M (Kd.int .u8) _ _ _ 121 [.int .u8 121] from rfl) (Reps.one (show Kd.M (Kd.int .u8) _ _ _ 110 [.int .u8 110] from rfl) (Reps.one (show Kd.M (Kd.int .u8) _ _ _ 113 [.int .u8 113] from rfl) (Reps.one (show Kd.M (Kd.int .u8) _ _ _ 105 [.int .u8 105] from rfl) (Reps.one (show Kd.M (Kd.int .u8) _ _ _ 117 [.int .u8 117] from rfl) (Reps.one (show Kd.M (Kd.int .u8) _ _ _ 120 [.int .u8 120] from rfl) (Reps.one (show Kd.M (Kd.int .u8) _ _ _ 116 [.int .u8 116] from rfl) (Reps.one (show Kd.M (Kd.int .u8) _ _ _ 100 [.int .u8 100] from rfl) (Reps.one (show Kd.M (Kd.int .u8) _ _ _ 115 [.int .u8 115] from rfl) (Reps.one (show Kd.M (Kd.int .u8) _ _ _ 111 [.int .u8 111] from rfl) (Reps.one (show Kd.M (Kd.int .u8) _ _ _ 104 [.int .u8 104] from rfl) (Reps.none _ _))))))))))))); intro v118 w11 ho12 hb hg_ hnew_; clear hg_ hnew_; (first | rw [← Ny117.out] at ho12 | (simp only [Int.reduceToNat] at ho12; rw [← Ny117.out] at ho12)); have n0_ := Aside0.mk (Kd.R_lower ho12 (below_size (by repeat (first | (with_reducible first | exact HB.out | apply below_alloc | apply pw_below_drewN | apply below_drew1) | exact HB.out)))); have n1_ := Aside0.mk (below_step (by repeat (first | (with_reducible first | exact HB.out | apply below_alloc | apply pw_below_drewN | apply below_drew1) | exact HB.out)) hb); clear HB; have HO119 := n0_; have HB := n1_; clear n0_ n1_; clear hb ho12; obtain ⟨Ao13, co13, eo13⟩ := Kd.R_slice HO119.out; subst eo13) | (refine wpList_mark rfl (.tmp 19) rfl Ao13 y117.length co13 y117 w.heap.size (fun _ => True) rfl HO119.out (by rw [Ny117.out]; decide) (Nat.le_refl _) HB.out ?_; intro w12_ hkc_ hb12_; have n0_ := Aside0.mk hkc_; have n1_ := Aside0.mk hb12_; clear HB HO119 hkc_ hb12_; have HO119 := n0_; have HB := n1_; clear n0_ n1_))
          go_loopg [22] kj2 (fun kq v22 w' => ∃ (x22_2 : Int), v22 = .int .i64 x22_2 ∧ Aside0 (laws_FnSgKey.l0 kq a0 y117 (y117.length : Int) x22_2 = some r) ∧ Aside0 (kq ≤ kj2) ∧ Aside0 (KC w' Ao13 y117.length co13 y117) ∧ Aside0 (Below w.heap.size w w'))
          case atStart => exact ⟨(0), (by first | rfl | (simp; done) | (simp [*]; done)), H', ⟨Nat.le_refl _⟩, ⟨by (with_reducible repeat (first | apply KC_alloc | apply KC_drewN | apply KC_drew)); exact HO119.out⟩, ⟨by repeat (first | (with_reducible first | exact HB.out | apply below_alloc | apply pw_below_drewN | apply below_drew1) | exact HB.out)⟩⟩
          case round =>
            clear H'
            try clear c1
            try clear c2
            try clear c2b0
            try clear c2b1
            try clear p2
            try clear c3
            try clear c5
            try clear c6
            try clear c6b0
            try clear c6b1
            try clear c10
            try clear p2
            obtain ⟨x22_2, rfl, HA, HK2, HO_20, HB⟩ := hrel
            cases gk with
            | zero => exact absurd HA.out (by simp [laws_FnSgKey.l0])
            | succ k2 =>
              have H := HA.out
              clear HA
              simp only [laws_FnSgKey.l0] at H
              by_cases c14 : x22_2 < (y117.length : Int)
              · rw [if_pos c14] at H
                have c14b0 : decide (x22_2 < (y117.length : Int)) = true := decide_eq_true c14
                clear c14
                by_cases c15 : 0 ≤ x22_2
                · rw [if_pos c15] at H
                  have c15b0 : decide (0 ≤ x22_2) = true := decide_eq_true c15
                  clear c15
                  by_cases c16 : x22_2 < (y117.length : Int)
                  · rw [if_pos c16] at H
                    have c16b0 : decide (x22_2 < (y117.length : Int)) = true := decide_eq_true c16
                    clear c16
                    obtain ⟨y121, hy121⟩ : ∃ y_ : List Int, y_ = (([rd y117 x22_2] : List Int)) := ⟨_, rfl⟩
                    replace H : ((impl_SgKey.f (strOfNums y121)).bind fun t124 => (if t124 = true then (laws_FnSgKey.l0 k2 a0 y117 (y117.length : Int) (wrap64 (x22_2 + 1))) else (some false))) = some r := by first | (rw [hy121]; with_reducible exact H) | (have H2_ := (Option.bind_some _ _).symm.trans H; rw [hy121]; with_reducible exact H2_) | (have H2_ := (Option.bind_some _ _).symm.trans H; with_reducible exact H2_) | with_reducible exact H | (rw [hy121]; exact H) | exact H
                    have Ny121 := Aside0.mk hy121
                    clear hy121
                    replace H := Option.bind_eq_some_iff.mp H
                    obtain ⟨t124, A170, H⟩ := H
                    replace H : (if t124 = true then (laws_FnSgKey.l0 k2 a0 y117 (y117.length : Int) (wrap64 (x22_2 + 1))) else (some false)) = some r := H
                    have A17 := Aside0.mk A170
                    clear A170
                    by_cases c18 : t124 = true
                    · subst c18
                      have H1 : (laws_FnSgKey.l0 k2 a0 y117 (y117.length : Int) (wrap64 (x22_2 + 1))) = some r := by rw [if_pos rfl] at H; exact H
                      clear H
                      have H := H1
                      clear H1
                      have H' := Aside0.mk H
                      clear H
                      have p120 : 0 ≤ (x22_2 : Int) := of_decide_eq_true (by first | (with_reducible assumption) | assumption)
                      have q120 : x22_2 < (y117.length : Int) := of_decide_eq_true (by first | (with_reducible assumption) | assumption)
                      obtain ⟨ad120, e120, hx120_0⟩ := Kd.at_int HO_20.out.2.2 x22_2 p120 q120
                      cases e120
                      replace p120 := eq_true p120
                      replace q120 := eq_true q120
                      go_wp2_with (first | ((with_reducible refine gate_dst (N := 27) rfl ?_); refine Kd.R_lit (Kd.int .u8) _ 5 ?hg (N := 27) ?hd (xs := ([rd y117 x22_2] : List Int)) (inner := [.int .u8 (rd y117 x22_2)]) (ok := fun _ => True) (okp := fun _ => True) ?hr ?hp (fun _ hk => hk) trivial (Below.refl _ _) (Nat.le_refl _) (by simp) ?_; (case hd => rfl); (case hg => rfl); (case hr => first | (go_simp; done) | (go_simp; rfl)); (case hp => exact (Reps.one (show Kd.M (Kd.int .u8) _ _ _ (rd y117 x22_2) [.int .u8 (rd y117 x22_2)] from rfl) (Reps.none _ _))); intro v122 w19 ho20 hb hg_ hnew_; clear hg_ hnew_; (first | rw [← Ny121.out] at ho20 | (simp only [Int.reduceToNat] at ho20; rw [← Ny121.out] at ho20)); have n0_ := Aside0.mk (KC_below (by (with_reducible repeat (first | apply KC_alloc | apply KC_drewN | apply KC_drew)); exact HO_20.out) hb); have n1_ := Aside0.mk (Kd.R_lower ho20 (below_size (by repeat (first | (with_reducible first | exact HB.out | apply below_alloc | apply pw_below_drewN | apply below_drew1) | exact HB.out)))); have n2_ := Aside0.mk (below_step (by repeat (first | (with_reducible first | exact HB.out | apply below_alloc | apply pw_below_drewN | apply below_drew1) | exact HB.out)) hb); clear HO_20; clear HB; have HO_20 := n0_; have HO123 := n1_; have HB := n2_; clear n0_ n1_ n2_; clear hb ho20; have hcv21 := own_string (P := Try.prog) Try.underlying23 Try.underlying5 Try.underlying9 (Kd.own_of_R HO123.out)) | ((with_reducible refine gate_callee (f := 6) rfl ?_); refine goesL_ (some 29) rfl rfl Try.func6 (by kernel_rfl) rfl #[.string (strOfNums y121)] rfl (by (try simp only [List.map_toArray, List.map_cons, List.map_nil]); first | done | rfl | (simp only [List.length_drop, List.length_take]; rfl)) ?_; (with_reducible refine (impl_SgKey.calls (strOfNums y121) true _ A17.out).mono ?_); rintro e w22 ⟨rfl, hb⟩; refine ⟨_, rfl, ?_⟩; have n0_ := Aside0.mk (KC_below (by (with_reducible repeat (first | apply KC_alloc | apply KC_drewN | apply KC_drew)); exact HO_20.out) hb); have n1_ := Aside0.mk (Kd.R_below (by (with_reducible repeat (first | apply Kd.R_alloc | apply Kd.R_drewN | apply Kd.R_drew)); exact HO123.out) hb); have n2_ := Aside0.mk (below_step (by repeat (first | (with_reducible first | exact HB.out | apply below_alloc | apply pw_below_drewN | apply below_drew1) | exact HB.out)) hb); clear HO_20; clear HO123; clear HB; have HO_20 := n0_; have HO123 := n1_; have HB := n2_; clear n0_ n1_ n2_; (try clear hb); (try clear hb2); (try clear hk); (try clear hi)))
                      go_roundg k2
                      case measure => have := HJ2.out; have := HK2.out; omega
                      case rel => exact ⟨(wrap64 (x22_2 + 1)), (by first | rfl | (simp; done) | (simp [*]; done)), H', ⟨by have := HJ2.out; have := HK2.out; omega⟩, ⟨by (with_reducible repeat (first | apply KC_alloc | apply KC_drewN | apply KC_drew)); exact HO_20.out⟩, ⟨by repeat (first | (with_reducible first | exact HB.out | apply below_alloc | apply pw_below_drewN | apply below_drew1) | exact HB.out)⟩⟩
                    · replace c18 := Bool.eq_false_iff.mpr c18
                      subst c18
                      have H1 : (some false) = some r := by rw [if_neg (show ¬ (false = true) by decide)] at H; exact H
                      clear H
                      have H := H1
                      clear H1
                      obtain rfl := Option.some.inj H
                      have p120 : 0 ≤ (x22_2 : Int) := of_decide_eq_true (by first | (with_reducible assumption) | assumption)
                      have q120 : x22_2 < (y117.length : Int) := of_decide_eq_true (by first | (with_reducible assumption) | assumption)
                      obtain ⟨ad120, e120, hx120_0⟩ := Kd.at_int HO_20.out.2.2 x22_2 p120 q120
                      cases e120
                      replace p120 := eq_true p120
                      replace q120 := eq_true q120
                      go_wp2_with (first | ((with_reducible refine gate_dst (N := 27) rfl ?_); refine Kd.R_lit (Kd.int .u8) _ 5 ?hg (N := 27) ?hd (xs := ([rd y117 x22_2] : List Int)) (inner := [.int .u8 (rd y117 x22_2)]) (ok := fun _ => True) (okp := fun _ => True) ?hr ?hp (fun _ hk => hk) trivial (Below.refl _ _) (Nat.le_refl _) (by simp) ?_; (case hd => rfl); (case hg => rfl); (case hr => first | (go_simp; done) | (go_simp; rfl)); (case hp => exact (Reps.one (show Kd.M (Kd.int .u8) _ _ _ (rd y117 x22_2) [.int .u8 (rd y117 x22_2)] from rfl) (Reps.none _ _))); intro v122 w23 ho24 hb hg_ hnew_; clear hg_ hnew_; (first | rw [← Ny121.out] at ho24 | (simp only [Int.reduceToNat] at ho24; rw [← Ny121.out] at ho24)); have n0_ := Aside0.mk (KC_below (by (with_reducible repeat (first | apply KC_alloc | apply KC_drewN | apply KC_drew)); exact HO_20.out) hb); have n1_ := Aside0.mk (Kd.R_lower ho24 (below_size (by repeat (first | (with_reducible first | exact HB.out | apply below_alloc | apply pw_below_drewN | apply below_drew1) | exact HB.out)))); have n2_ := Aside0.mk (below_step (by repeat (first | (with_reducible first | exact HB.out | apply below_alloc | apply pw_below_drewN | apply below_drew1) | exact HB.out)) hb); clear HO_20; clear HB; have HO_20 := n0_; have HO123 := n1_; have HB := n2_; clear n0_ n1_ n2_; clear hb ho24; have hcv25 := own_string (P := Try.prog) Try.underlying23 Try.underlying5 Try.underlying9 (Kd.own_of_R HO123.out)) | ((with_reducible refine gate_callee (f := 6) rfl ?_); refine goesL_ (some 29) rfl rfl Try.func6 (by kernel_rfl) rfl #[.string (strOfNums y121)] rfl (by (try simp only [List.map_toArray, List.map_cons, List.map_nil]); first | done | rfl | (simp only [List.length_drop, List.length_take]; rfl)) ?_; (with_reducible refine (impl_SgKey.calls (strOfNums y121) false _ A17.out).mono ?_); rintro e w26 ⟨rfl, hb⟩; refine ⟨_, rfl, ?_⟩; have n0_ := Aside0.mk (KC_below (by (with_reducible repeat (first | apply KC_alloc | apply KC_drewN | apply KC_drew)); exact HO_20.out) hb); have n1_ := Aside0.mk (Kd.R_below (by (with_reducible repeat (first | apply Kd.R_alloc | apply Kd.R_drewN | apply Kd.R_drew)); exact HO123.out) hb); have n2_ := Aside0.mk (below_step (by repeat (first | (with_reducible first | exact HB.out | apply below_alloc | apply pw_below_drewN | apply below_drew1) | exact HB.out)) hb); clear HO_20; clear HO123; clear HB; have HO_20 := n0_; have HO123 := n1_; have HB := n2_; clear n0_ n1_ n2_; (try clear hb); (try clear hb2); (try clear hk); (try clear hi)))
                      go_ret
                      exact ⟨by first | rfl | (simp [errW_none, errW_some] <;> rfl) | (simp [*, errW_none, errW_some] <;> rfl), by repeat (first | (with_reducible first | exact HB.out | apply below_alloc | apply pw_below_drewN | apply below_drew1) | exact HB.out)⟩
                  · rw [if_neg c16] at H
                    exact absurd H (by simp)
                · rw [if_neg c15] at H
                  exact absurd H (by simp)
              · rw [if_neg c14] at H
                have c14b0 : decide (x22_2 < (y117.length : Int)) = false := decide_eq_false c14
                clear c14
                replace H := Option.bind_eq_some_iff.mp H
                obtain ⟨t125, A270, H⟩ := H
                replace H : (if 0 < (a0.size : Int) then ((spec_Basic.f (bt a0 0)).bind fun t126 => (some (t125 == t126))) else (none)) = some r := H
                have A27 := Aside0.mk A270
                clear A270
                by_cases c28 : 0 < (a0.size : Int)
                · rw [if_pos c28] at H
                  have c28b0 : decide (0 < (a0.size : Int)) = true := decide_eq_true c28
                  have c28b1 : decide (0 < a0.size) = true := decide_eq_true (by omega)
                  clear c28
                  replace H := Option.bind_eq_some_iff.mp H
                  obtain ⟨t126, A300, H⟩ := H
                  replace H : (some (t125 == t126)) = some r := H
                  have A30 := Aside0.mk A300
                  clear A300
                  obtain rfl := Option.some.inj H
                  try go_wp2
                  have n0_ := Aside0.mk (KC_drew HO_20.out)
                  have n1_ := Aside0.mk (below_drew1 HB.out)
                  clear HO_20
                  clear HB
                  have HO_20 := n0_
                  have HB := n1_
                  clear n0_ n1_
                  have p29 : 0 ≤ (0 : Int) := (by omega)
                  have q29 : 0 < a0.size := (by have : (0 : Int) < (a0.size : Int) := of_decide_eq_true (by first | (with_reducible assumption) | assumption); omega)
                  have hx29 : ∀ h : 0 < a0.size, ((a0[0]'h).toNat : Int) = bt a0 0 := bt_at a0 0
                  clear p29
                  have qi29 : (0 < (a0.size : Int)) = True := eq_true (of_decide_eq_true (by first | (with_reducible assumption) | assumption))
                  replace q29 := eq_true q29
                  refine start_ (n := 7) (S := fun w' => True) (ds := []) #[false, false, false, false, false, false, false] (by kernel_rfl) rfl rfl trivial (fun hHeld => ?_)
                  generalize wr.drew = w31 at HO_20 HB hHeld ⊢
                  refine pure_ (i := 0) (N := some 32) (v := ?_) (a' := ?_) #[true, false, false, false, false, false, false] rfl rfl (by kernel_rfl) (fun _ _ _ h => h) (Or.inl ⟨by rfl, ?_⟩) ?_ ?_
                  rotate_left
                  · intro w'
                    go_simp
                    with_reducible rfl
                  rotate_left
                  · simp only [Act.put, List.setIfInBounds_toArray, List.set_cons_zero, List.set_cons_succ, i64_w, i32_w]
                    rfl
                  refine pure_ (i := 2) (N := some 34) (v := ?_) (a' := ?_) #[true, false, true, false, false, false, false] rfl rfl (by kernel_rfl) (fun _ _ _ h => h) (Or.inl ⟨by rfl, ?_⟩) ?_ ?_
                  rotate_left
                  · intro w'
                    go_simp
                    with_reducible rfl
                  rotate_left
                  · simp only [Act.put, List.setIfInBounds_toArray, List.set_cons_zero, List.set_cons_succ, i64_w, i32_w]
                    rfl
                  refine take_ (i := 3) (N := some 35) (v := ?_) (a' := ?_) #[true, false, true, true, false, false, false] rfl rfl (by kernel_rfl) (fun _ _ _ h => h) (Or.inl ⟨by rfl, ?_⟩) hHeld ?_ ?_
                  rotate_left
                  · intro w' _
                    go_simp
                    with_reducible rfl
                  rotate_left
                  · simp only [Act.put, List.setIfInBounds_toArray, List.set_cons_zero, List.set_cons_succ, i64_w, i32_w]
                    rfl
                  refine one_ (i := 1) (N := some 33) #[true, true, true, true, false, false, false] rfl rfl (by kernel_rfl) (by decide) (fun K hK => ?_)
                  refine goes_ Try.func6 (by kernel_rfl) rfl #[.string a0] (by rfl) rfl rfl (by (try simp only [List.map_toArray, List.map_cons, List.map_nil]); first | done | rfl | (simp only [List.length_drop, List.length_take]; rfl)) ?_
                  with_reducible refine (impl_SgKey.calls a0 t125 _ A27.out).mono ?_
                  rintro e w32 ⟨rfl, hb⟩
                  refine ⟨_, rfl, ?_⟩
                  have n0_ := Aside0.mk (KC_below (by (with_reducible repeat (first | apply KC_alloc | apply KC_drewN | apply KC_drew)); exact HO_20.out) hb)
                  have n1_ := Aside0.mk (below_step (by repeat (first | (with_reducible first | exact HB.out | apply below_alloc | apply pw_below_drewN | apply below_drew1) | exact HB.out)) hb)
                  clear HO_20
                  clear HB
                  have HO_20 := n0_
                  have HB := n1_
                  clear n0_ n1_
                  (try clear hb)
                  (try clear hb2)
                  (try clear hk)
                  (try clear hi)
                  refine hK.out _ _ trivial (fun hHeld => ?_)
                  clear hK K
                  refine norm_ (a' := ?_) ?_ ?_
                  rotate_left
                  · show Act.put _ (some 33) _ = _
                    simp only [Act.put, List.setIfInBounds_toArray, List.set_cons_zero, List.set_cons_succ, i64_w, i32_w]
                    rfl
                  refine one_ (i := 4) (N := some 36) #[true, true, true, true, true, false, false] rfl rfl (by kernel_rfl) (by decide) (fun K hK => ?_)
                  refine goes_ Try.func7 (by kernel_rfl) rfl #[.int .u8 (bt a0 0)] (by rfl) rfl rfl (by (try simp only [List.map_toArray, List.map_cons, List.map_nil]); first | done | rfl | (simp only [List.length_drop, List.length_take]; rfl)) ?_
                  with_reducible refine (spec_Basic.calls (bt a0 0) t126 _ A30.out).mono ?_
                  rintro e w' ⟨rfl, ⟨nd, rfl⟩⟩
                  refine ⟨_, rfl, ?_⟩
                  refine hK.out _ _ trivial (fun hHeld => ?_)
                  clear hK K
                  refine norm_ (a' := ?_) ?_ ?_
                  rotate_left
                  · show Act.put _ (some 36) _ = _
                    simp only [Act.put, List.setIfInBounds_toArray, List.set_cons_zero, List.set_cons_succ, i64_w, i32_w]
                    rfl
                  refine pure_ (i := 5) (N := some 37) (v := ?_) (a' := ?_) #[true, true, true, true, true, true, false] rfl rfl (by kernel_rfl) (fun _ _ _ h => h) (Or.inl ⟨by rfl, ?_⟩) ?_ ?_
                  rotate_left
                  · intro w'
                    go_simp
                    with_reducible rfl
                  rotate_left
                  · simp only [Act.put, List.setIfInBounds_toArray, List.set_cons_zero, List.set_cons_succ, i64_w, i32_w]
                    rfl
                  refine pure_ (i := 6) (N := some 2) (v := ?_) (a' := ?_) #[true, true, true, true, true, true, true] rfl rfl (by kernel_rfl) (fun _ _ _ h => h) (Or.inl ⟨by rfl, ?_⟩) ?_ ?_
                  rotate_left
                  · intro w'
                    go_simp
                    with_reducible rfl
                  rotate_left
                  · simp only [Act.put, List.setIfInBounds_toArray, List.set_cons_zero, List.set_cons_succ, i64_w, i32_w]
                    rfl
                  refine done_ (by kernel_rfl) ?_
                  try go_wp2
                  go_ret
                  exact ⟨by first | rfl | (simp [errW_none, errW_some] <;> rfl) | (simp [*, errW_none, errW_some] <;> rfl), by repeat (first | (with_reducible first | exact HB.out | apply below_alloc | apply pw_below_drewN | apply below_drew1) | exact HB.out)⟩
                · rw [if_neg c28] at H
                  exact absurd H (by simp)

/-- THE ONE PURE STATEMENT of laws_FnSgKey: yours. -/
def laws_FnSgKey.Pure : Prop := ∀ (a0 : ByteArray), a0.size ≤ 140737488351232 → ∃ k, laws_FnSgKey.f k a0 = some true
theorem laws_FnSgKey.walk (P : laws_FnSgKey.Pure) (a0 : ByteArray) (w : World) (w0 : a0.size ≤ 140737488351232) :
    Calls Try.prog 3 #[.string a0] w fun e w' => e = .returned (.bool true) ∧ Below w.heap.size w w' := by
  obtain ⟨k, h⟩ := P a0 w0
  refine (laws_FnSgKey.calls k a0 true w h).mono ?_
  rintro e w' ⟨rfl, hd⟩
  exact ⟨rfl, hd⟩

end Go.Proofs.Ytlnkgifpiinnoaa.Q
