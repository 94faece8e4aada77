-- Written by a program of this session out of the translation; Lean checks it.
import Derived.Test.YthhiijehdpchbaaQ0
import Derived.Test.YthhiijehdpchbaaQ1
import Derived.Test.YthhiijehdpchbaaQ2
namespace Go.Proofs.Ythhiijehdpchbaa.Q
open Go.RowKit Go.Proofs.Ythhiijehdpchbaa.Ext Go.Proofs.YthhiijehdpchbaaW.PrintWords Go.Proofs.YthhiijehdpchbaaW.PrintLast Go.Proofs.YthhiijehdpchbaaW.PrintMore
attribute [local go_sem] max2_int min2_int max_two min_two max_three min_three max_four min_four   -- for this text's walks alone
set_option linter.unusedVariables false
set_option linter.unusedSimpArgs false

/-! ### spec_complete: function 20 -/
def spec_complete.f (k : Nat) (a0 : ByteArray) : Option (Int) := (spec_Complete.f k a0 32 32 32).bind fun t106 => (some t106)
theorem spec_complete.mono : ∀ a0 k, LeO (spec_complete.f k a0) (spec_complete.f (k + 1) a0) := by
  intro a0 k
  unfold spec_complete.f
  repeat' first
      | (with_reducible exact spec_Complete.mono _ _ _ _ _)
      | (with_reducible exact LeO.refl _)
      | (with_reducible exact LeO.none _)
      | (with_reducible refine LeO.ite ?_ ?_)
      | (with_reducible refine LeO.bind ?_ (fun _ => ?_))
      | exact spec_Complete.mono _ _ _ _ _
      | exact LeO.none _
      | refine LeO.ite ?_ ?_
      | refine LeO.bind ?_ (fun _ => ?_)
set_option maxHeartbeats 8000000 in
set_option maxRecDepth 100000 in
theorem spec_complete.calls (k : Nat) (a0 : ByteArray) (r : Int) (w : World) (h : spec_complete.f k a0 = some r) :
    Calls Try.prog 20 #[.string a0] w fun e w' => e = .returned (.int .i64 r) ∧ Drawn0 w w' := by
  have H : ((spec_Complete.f k a0 32 32 32).bind fun t106 => (some t106)) = some r := h
  clear h
  replace H := Option.bind_eq_some_iff.mp H
  obtain ⟨t106, A20, H⟩ := H
  replace H : (some t106) = some r := H
  have A2 := Aside0.mk A20
  clear A20
  obtain rfl := Option.some.inj H
  go_enter Try.func20, Try.ntmps20
  go_wp2_with (first | ((with_reducible refine gate_callee (f := 23) rfl ?_); refine goesL_ (some 4) rfl rfl Try.func23 (by kernel_rfl) rfl #[.string a0, .int .i64 32, .int .i64 32, .int .i64 32] rfl (by (try simp only [List.map_toArray, List.map_cons, List.map_nil]); first | done | rfl | (simp only [List.length_drop, List.length_take]; rfl)) ?_; (with_reducible refine (spec_Complete.calls k a0 32 32 32 t106 _ A2.out).mono ?_); rintro e w' ⟨rfl, ⟨nd, rfl⟩⟩; refine ⟨_, rfl, ?_⟩))
  go_ret
  exact ⟨by first | rfl | (simp; done) | (simp [*]; done), by repeat (first | exact Drawn0.refl _ | apply Drawn0.step)⟩

/-! ### spec_Types: function 15 -/
def spec_Types.l0 : Nat → ByteArray → List ByteArray → Option (List ByteArray × Bool)
  | 0, _, _ => none
  | k + 1, x0, x4 => if x0.toList = ([] : List UInt8) then (some (x4, true)) else ((spec_complete.f k x0).bind fun t107 => (if t107 = 0 then (some (([] : List ByteArray), false)) else (if 0 ≤ t107 then (if t107 ≤ (x0.size : Int) then (if x4.length < 8796093022208 then (spec_Types.l0 k (x0.extract (t107 : Int).toNat x0.size) (x4 ++ [x0.extract 0 (t107 : Int).toNat])) else (none)) else (none)) else (none))))
def spec_Types.f (k : Nat) (a0 : ByteArray) : Option (List ByteArray × Bool) := if (a0.size : Int) > 255 then (some (([] : List ByteArray), false)) else (spec_Types.l0 k a0 ([] : List ByteArray))
theorem spec_Types.mono_l : ∀ k, (∀ y0 y1, LeO (spec_Types.l0 k y0 y1) (spec_Types.l0 (k + 1) y0 y1))
  | 0 => fun _ _ r h => by simp [spec_Types.l0] at h
  | k + 1 => by
    have ih0 := spec_Types.mono_l k
    · intro y0 y1
      unfold spec_Types.l0
      repeat' first
      | (with_reducible exact ih0 _ _)
      | (with_reducible exact spec_complete.mono _ _)
      | (with_reducible exact LeO.refl _)
      | (with_reducible exact LeO.none _)
      | (with_reducible refine LeO.ite ?_ ?_)
      | (with_reducible refine LeO.bind ?_ (fun _ => ?_))
      | exact ih0 _ _
      | exact spec_complete.mono _ _
      | exact LeO.none _
      | refine LeO.ite ?_ ?_
      | refine LeO.bind ?_ (fun _ => ?_)
theorem spec_Types.mono : ∀ a0 k, LeO (spec_Types.f k a0) (spec_Types.f (k + 1) a0) := by
  intro a0 k
  have ih0 := spec_Types.mono_l k
  unfold spec_Types.f
  repeat' first
      | (with_reducible exact ih0 _ _)
      | (with_reducible exact spec_complete.mono _ _)
      | (with_reducible exact LeO.refl _)
      | (with_reducible exact LeO.none _)
      | (with_reducible refine LeO.ite ?_ ?_)
      | (with_reducible refine LeO.bind ?_ (fun _ => ?_))
      | exact ih0 _ _
      | exact spec_complete.mono _ _
      | exact LeO.none _
      | refine LeO.ite ?_ ?_
      | refine LeO.bind ?_ (fun _ => ?_)
set_option maxHeartbeats 8000000 in
set_option maxRecDepth 100000 in
theorem spec_Types.calls (k : Nat) (a0 : ByteArray) (r1 : List ByteArray) (r2 : Bool) (w : World) (h : spec_Types.f k a0 = some (r1, r2)) :
    Calls Try.prog 15 #[.string a0] w fun e w' => ∃ v0_ : Value, e = .returned (.tuple #[v0_, .bool r2]) ∧ Kd.R Kd.string 9 w' w.heap.size (fun _ => True) v0_ r1 ∧ Below w.heap.size w w' := by
  have HB := Aside0.mk (Below.refl w.heap.size w)
  have H : (if (a0.size : Int) > 255 then (some (([] : List ByteArray), false)) else (spec_Types.l0 k a0 ([] : List ByteArray))) = some (r1, r2) := h
  clear h
  by_cases c2 : (a0.size : Int) > 255
  · rw [if_pos c2] at H
    have c2b0 : decide (255 < (a0.size : Int)) = true := decide_eq_true c2
    have c2b1 : decide (255 < a0.size) = true := decide_eq_true (by omega)
    clear c2
    simp only [Option.some.injEq, Prod.mk.injEq] at H
    obtain ⟨rfl, rfl⟩ := H
    go_enter Try.func15, Try.ntmps15
    go_wp2
    go_ret2
    exact ⟨_, by first | rfl | (simp [errW_none, errW_some] <;> rfl) | (simp [*, errW_none, errW_some] <;> rfl), by first | exact Kd.R_nil _ _ _ _ _ | exact Kd.N_nil _ _ _ _ _ | exact Kd.V_nil _ _ _ _ _ | exact Kd.Q_nil _ _ _ _ _ | exact Kd.S_nil _ _ _ _ _, by repeat (first | (with_reducible first | exact HB.out | apply below_alloc | apply pw_below_drewN | apply below_drew1) | exact HB.out)⟩
  · rw [if_neg c2] at H
    have c2b0 : decide (255 < (a0.size : Int)) = false := decide_eq_false c2
    have c2b1 : decide (255 < a0.size) = false := decide_eq_false (by omega)
    clear c2
    have H' := Aside0.mk H
    clear H
    go_enter Try.func15, Try.ntmps15
    go_wp2
    go_loopg [0, 4] k (fun kq v0 v4 w' => ∃ (x0_1 : ByteArray) (x4_1 : List ByteArray), v0 = .string x0_1 ∧ Aside0 (spec_Types.l0 kq x0_1 x4_1 = some (r1, r2)) ∧ Aside0 (kq ≤ k) ∧ Aside0 (Kd.R Kd.string 9 w' w.heap.size (fun _ => True) v4 x4_1) ∧ Aside0 (Below w.heap.size w w'))
    case atStart => exact ⟨(a0), (([] : List ByteArray)), (by first | rfl | (simp; done) | (simp [*]; done)), H', ⟨Nat.le_refl _⟩, ⟨by first | exact Kd.R_nil _ _ _ _ _ | exact Kd.N_nil _ _ _ _ _ | exact Kd.V_nil _ _ _ _ _ | exact Kd.Q_nil _ _ _ _ _ | exact Kd.S_nil _ _ _ _ _⟩, ⟨by repeat (first | (with_reducible first | exact HB.out | apply below_alloc | apply pw_below_drewN | apply below_drew1) | exact HB.out)⟩⟩
    case round =>
      clear H'
      try clear c1
      try clear c2
      try clear c2b0
      try clear c2b1
      try clear p2
      obtain ⟨x0_1, x4_1, rfl, HA, HK1, HO_4, HB⟩ := hrel
      cases gk with
      | zero => exact absurd HA.out (by simp [spec_Types.l0])
      | succ k1 =>
        have H := HA.out
        clear HA
        simp only [spec_Types.l0] at H
        by_cases c3 : x0_1.toList = ([] : List UInt8)
        · rw [if_pos c3] at H
          have c3b0 : (x0_1.toList == ([] : List UInt8)) = true := beq_iff_eq.mpr c3
          have c3b1 : (x0_1.toList != ([] : List UInt8)) = false := bne_eq_false_iff_eq.mpr c3
          clear c3
          simp only [Option.some.injEq, Prod.mk.injEq] at H
          obtain ⟨rfl, rfl⟩ := H
          go_wp2
          go_ret2
          exact ⟨_, by first | rfl | (simp [errW_none, errW_some] <;> rfl) | (simp [*, errW_none, errW_some] <;> rfl), by (with_reducible repeat (first | apply Kd.R_alloc | apply Kd.R_drewN | apply Kd.R_drew)); exact HO_4.out, by repeat (first | (with_reducible first | exact HB.out | apply below_alloc | apply pw_below_drewN | apply below_drew1) | exact HB.out)⟩
        · rw [if_neg c3] at H
          have c3b0 : (x0_1.toList == ([] : List UInt8)) = false := beq_eq_false_iff_ne.mpr c3
          have c3b1 : (x0_1.toList != ([] : List UInt8)) = true := bne_iff_ne.mpr c3
          replace H := Option.bind_eq_some_iff.mp H
          obtain ⟨t107, A40, H⟩ := H
          replace H : (if t107 = 0 then (some (([] : List ByteArray), false)) else (if 0 ≤ t107 then (if t107 ≤ (x0_1.size : Int) then (if x4_1.length < 8796093022208 then (spec_Types.l0 k1 (x0_1.extract (t107 : Int).toNat x0_1.size) (x4_1 ++ [x0_1.extract 0 (t107 : Int).toNat])) else (none)) else (none)) else (none))) = some (r1, r2) := H
          have A4 := Aside0.mk A40
          clear A40
          by_cases c5 : t107 = 0
          · rw [if_pos c5] at H
            have c5b0 : (t107 == 0) = true := beq_iff_eq.mpr c5
            have c5b1 : (t107 != 0) = false := bne_eq_false_iff_eq.mpr c5
            clear c5
            simp only [Option.some.injEq, Prod.mk.injEq] at H
            obtain ⟨rfl, rfl⟩ := H
            go_wp2_with (first | ((with_reducible refine gate_callee (f := 20) rfl ?_); refine goesL_ (some 12) rfl rfl Try.func20 (by kernel_rfl) rfl #[.string x0_1] rfl (by (try simp only [List.map_toArray, List.map_cons, List.map_nil]); first | done | rfl | (simp only [List.length_drop, List.length_take]; rfl)) ?_; (with_reducible refine (spec_complete.calls k1 x0_1 t107 _ A4.out).mono ?_); rintro e w' ⟨rfl, ⟨nd, rfl⟩⟩; refine ⟨_, rfl, ?_⟩))
            go_ret2
            exact ⟨_, by first | rfl | (simp [errW_none, errW_some] <;> rfl) | (simp [*, errW_none, errW_some] <;> rfl), by first | exact Kd.R_nil _ _ _ _ _ | exact Kd.N_nil _ _ _ _ _ | exact Kd.V_nil _ _ _ _ _ | exact Kd.Q_nil _ _ _ _ _ | exact Kd.S_nil _ _ _ _ _, by repeat (first | (with_reducible first | exact HB.out | apply below_alloc | apply pw_below_drewN | apply below_drew1) | exact HB.out)⟩
          · rw [if_neg c5] at H
            have c5b0 : (t107 == 0) = false := beq_eq_false_iff_ne.mpr c5
            have c5b1 : (t107 != 0) = true := bne_iff_ne.mpr c5
            by_cases c6 : 0 ≤ t107
            · rw [if_pos c6] at H
              have c6b0 := eq_true c6
              have c6b1 : decide (0 ≤ t107) = true := decide_eq_true c6
              clear c6
              by_cases c7 : t107 ≤ (x0_1.size : Int)
              · rw [if_pos c7] at H
                have c7b0 := eq_true c7
                have c7b1 : decide (t107 ≤ (x0_1.size : Int)) = true := decide_eq_true c7
                clear c7
                by_cases c8 : x4_1.length < 8796093022208
                · rw [if_pos c8] at H
                  have LMc8 := Aside0.mk c8
                  clear c8
                  obtain ⟨y108, hy108⟩ : ∃ y_ : List ByteArray, y_ = (x4_1 ++ [x0_1.extract 0 (t107 : Int).toNat]) := ⟨_, rfl⟩
                  replace H : (spec_Types.l0 k1 (x0_1.extract (t107 : Int).toNat x0_1.size) y108) = some (r1, r2) := by first | (rw [hy108]; with_reducible exact H) | (have H2_ := (Option.bind_some _ _).symm.trans H; rw [hy108]; with_reducible exact H2_) | (have H2_ := (Option.bind_some _ _).symm.trans H; with_reducible exact H2_) | with_reducible exact H | (rw [hy108]; exact H) | exact H
                  have Ny108 := Aside0.mk hy108
                  clear hy108
                  have c9b0 := eq_true (of_decide_eq_true (by first | (with_reducible assumption) | assumption) : 0 ≤ t107)
                  have c10b0 := eq_true (of_decide_eq_true (by first | (with_reducible assumption) | assumption) : t107 ≤ (x0_1.size : Int))
                  have H' := Aside0.mk H
                  clear H
                  go_wp2_with (first | ((with_reducible refine gate_callee (f := 20) rfl ?_); refine goesL_ (some 12) rfl rfl Try.func20 (by kernel_rfl) rfl #[.string x0_1] rfl (by (try simp only [List.map_toArray, List.map_cons, List.map_nil]); first | done | rfl | (simp only [List.length_drop, List.length_take]; rfl)) ?_; (with_reducible refine (spec_complete.calls k1 x0_1 t107 _ A4.out).mono ?_); rintro e w' ⟨rfl, ⟨nd, rfl⟩⟩; refine ⟨_, rfl, ?_⟩) | ((with_reducible refine gate_builtin (b := .append) (xs := #[.tmp 15, .tmp 19]) rfl ?_); at_builtin; refine Kd.R_append Kd.string (w0 := w) w.heap.size rfl (.tmp 15) (.tmp 19) 30 9 (.string ⟨#[]⟩) 16 rfl Try.underlying30 info9 rfl (by decide) (by omega) u4 x4_1 (x0_1.extract 0 (t107 : Int).toNat) [.string (x0_1.extract 0 (t107 : Int).toNat)] (fun _ => True) (fun _ => False) rfl rfl ?aP (fun _ hk => hk.elim) ?aF ?aO ?aB ?aS ?aL ?_; (case aP => exact rfl); (case aB => exact (by repeat (first | (with_reducible first | exact HB.out | apply below_alloc | apply pw_below_drewN | apply below_drew1) | exact HB.out))); (case aF => exact (fun _ _ => trivial)); (case aO => exact (by (with_reducible repeat (first | apply Kd.R_alloc | apply Kd.R_drewN | apply Kd.R_drew)); exact HO_4.out)); (case aS => exact (below_size (by repeat (first | (with_reducible first | exact HB.out | apply below_alloc | apply pw_below_drewN | apply below_drew1) | exact HB.out)))); (case aL => have := LMc8.out; omega); intro v109 w11 ho hb hg hat; rw [← Ny108.out] at ho; have n0_ := Aside0.mk (hb); have n1_ := Aside0.mk (ho); clear HB; clear HO_4; have HB := n0_; have HO110 := n1_; clear n0_ n1_; clear ho hb hg hat))
                  go_roundg k1
                  case measure => have := HK1.out; omega
                  case rel => exact ⟨(x0_1.extract (t107 : Int).toNat x0_1.size), (y108), (by first | rfl | (simp; done) | (simp [*]; done)), H', ⟨by have := HK1.out; omega⟩, ⟨by (with_reducible repeat (first | apply Kd.R_alloc | apply Kd.R_drewN | apply Kd.R_drew)); exact HO110.out⟩, ⟨by repeat (first | (with_reducible first | exact HB.out | apply below_alloc | apply pw_below_drewN | apply below_drew1) | exact HB.out)⟩⟩
                · rw [if_neg c8] at H
                  exact absurd H (by simp)
              · rw [if_neg c7] at H
                exact absurd H (by simp)
            · rw [if_neg c6] at H
              exact absurd H (by simp)

/-! ### spec_Single: function 9 -/
def spec_Single.f (k : Nat) (a0 : ByteArray) : Option (Bool) := (spec_Types.f k a0).bind fun bt111 => (if bt111.2 = true then (some ((bt111.1.length : Int) == 1)) else (some false))
theorem spec_Single.mono : ∀ a0 k, LeO (spec_Single.f k a0) (spec_Single.f (k + 1) a0) := by
  intro a0 k
  unfold spec_Single.f
  repeat' first
      | (with_reducible exact spec_Types.mono _ _)
      | (with_reducible exact LeO.refl _)
      | (with_reducible exact LeO.none _)
      | (with_reducible refine LeO.ite ?_ ?_)
      | (with_reducible refine LeO.bind ?_ (fun _ => ?_))
      | exact spec_Types.mono _ _
      | exact LeO.none _
      | refine LeO.ite ?_ ?_
      | refine LeO.bind ?_ (fun _ => ?_)
set_option maxHeartbeats 8000000 in
set_option maxRecDepth 100000 in
theorem spec_Single.calls (k : Nat) (a0 : ByteArray) (r : Bool) (w : World) (h : spec_Single.f k a0 = some r) :
    Calls Try.prog 9 #[.string a0] w fun e w' => e = .returned (.bool r) ∧ Below w.heap.size w w' := by
  have HB := Aside0.mk (Below.refl w.heap.size w)
  have H : ((spec_Types.f k a0).bind fun bt111 => (if bt111.2 = true then (some ((bt111.1.length : Int) == 1)) else (some false))) = some r := h
  clear h
  replace H := Option.bind_eq_some_iff.mp H
  obtain ⟨⟨t111, t112⟩, A20, H⟩ := H
  replace H : (if t112 = true then (some ((t111.length : Int) == 1)) else (some false)) = some r := H
  have A2 := Aside0.mk A20
  clear A20
  by_cases c3 : t112 = true
  · subst c3
    have H1 : (some ((t111.length : Int) == 1)) = some r := by rw [if_pos rfl] at H; exact H
    clear H
    have H := H1
    clear H1
    obtain rfl := Option.some.inj H
    go_enter Try.func9, Try.ntmps9
    go_wp2_with (first | ((with_reducible refine gate_callee (f := 15) rfl ?_); refine goesL_ (some 7) rfl rfl Try.func15 (by kernel_rfl) rfl #[.string a0] rfl (by (try simp only [List.map_toArray, List.map_cons, List.map_nil]); first | done | rfl | (simp only [List.length_drop, List.length_take]; rfl)) ?_; (with_reducible refine (spec_Types.calls k a0 t111 true _ A2.out).mono ?_); rintro e w4 ⟨v113, rfl, ho0, hb⟩; refine ⟨_, rfl, ?_⟩; have n0_ := Aside0.mk (Kd.R_lower ho0 (below_size (by repeat (first | (with_reducible first | exact HB.out | apply below_alloc | apply pw_below_drewN | apply below_drew1) | exact HB.out)))); have n1_ := Aside0.mk (below_step (by repeat (first | (with_reducible first | exact HB.out | apply below_alloc | apply pw_below_drewN | apply below_drew1) | exact HB.out)) hb); clear HB; have HO114 := n0_; have HB := n1_; clear n0_ n1_; (try clear hb); (try clear hb2); (try clear hk); (try clear hi); (try clear ho0); obtain ⟨Ao5, co5, eo5⟩ := Kd.R_slice HO114.out; subst eo5))
    go_ret
    exact ⟨by first | rfl | (simp [errW_none, errW_some] <;> rfl) | (simp [*, errW_none, errW_some] <;> rfl), by repeat (first | (with_reducible first | exact HB.out | apply below_alloc | apply pw_below_drewN | apply below_drew1) | exact HB.out)⟩
  · replace c3 := Bool.eq_false_iff.mpr c3
    subst c3
    have H1 : (some false) = some r := by rw [if_neg (show ¬ (false = true) by decide)] at H; exact H
    clear H
    have H := H1
    clear H1
    obtain rfl := Option.some.inj H
    go_enter Try.func9, Try.ntmps9
    go_wp2_with (first | ((with_reducible refine gate_callee (f := 15) rfl ?_); refine goesL_ (some 7) rfl rfl Try.func15 (by kernel_rfl) rfl #[.string a0] rfl (by (try simp only [List.map_toArray, List.map_cons, List.map_nil]); first | done | rfl | (simp only [List.length_drop, List.length_take]; rfl)) ?_; (with_reducible refine (spec_Types.calls k a0 t111 false _ A2.out).mono ?_); rintro e w6 ⟨v113, rfl, ho0, hb⟩; refine ⟨_, rfl, ?_⟩; have n0_ := Aside0.mk (Kd.R_lower ho0 (below_size (by repeat (first | (with_reducible first | exact HB.out | apply below_alloc | apply pw_below_drewN | apply below_drew1) | exact HB.out)))); have n1_ := Aside0.mk (below_step (by repeat (first | (with_reducible first | exact HB.out | apply below_alloc | apply pw_below_drewN | apply below_drew1) | exact HB.out)) hb); clear HB; have HO114 := n0_; have HB := n1_; clear n0_ n1_; (try clear hb); (try clear hb2); (try clear hk); (try clear hi); (try clear ho0)))
    go_ret
    exact ⟨by first | rfl | (simp [errW_none, errW_some] <;> rfl) | (simp [*, errW_none, errW_some] <;> rfl), by repeat (first | (with_reducible first | exact HB.out | apply below_alloc | apply pw_below_drewN | apply below_drew1) | exact HB.out)⟩

-- BY HAND: function 10 (impl_SgParse), in Derived.Test.YthhiijehdpchbaaExt6

/-! ### laws_FnSgCut: function 3 -/
def laws_FnSgCut.f (k : Nat) (a0 : ByteArray) (a1 : Int) : Option (Bool) := if (a0.size : Int) > 2147483647 then (some true) else ((spec_Single.f k a0).bind fun t115 => (if t115 = true then (if (a0.size : Int) = 0 then (none) else (if 0 ≤ (Int.tmod (wrap64 (a1)) (a0.size : Int)) then (if (Int.tmod (wrap64 (a1)) (a0.size : Int)) ≤ (a0.size : Int) then ((impl_SgParse.f k (a0.extract 0 ((Int.tmod (wrap64 (a1)) (a0.size : Int)) : Int).toNat)).bind fun bt116 => ((impl_SgParse.f k a0).bind fun bt118 => (if (bt116.2 == ((Int.tmod (wrap64 (a1)) (a0.size : Int)) == 0)) = true then (some bt118.2) else (some false)))) else (none)) else (none))) else (some true)))
theorem laws_FnSgCut.mono : ∀ a0 a1 k, LeO (laws_FnSgCut.f k a0 a1) (laws_FnSgCut.f (k + 1) a0 a1) := by
  intro a0 a1 k
  unfold laws_FnSgCut.f
  repeat' first
      | (with_reducible exact impl_SgParse.mono _ _)
      | (with_reducible exact spec_Single.mono _ _)
      | (with_reducible exact LeO.refl _)
      | (with_reducible exact LeO.none _)
      | (with_reducible refine LeO.ite ?_ ?_)
      | (with_reducible refine LeO.bind ?_ (fun _ => ?_))
      | exact impl_SgParse.mono _ _
      | exact spec_Single.mono _ _
      | exact LeO.none _
      | refine LeO.ite ?_ ?_
      | refine LeO.bind ?_ (fun _ => ?_)
set_option maxHeartbeats 8000000 in
set_option maxRecDepth 100000 in
theorem laws_FnSgCut.calls (k : Nat) (a0 : ByteArray) (a1 : Int) (r : Bool) (w : World) (h : laws_FnSgCut.f k a0 a1 = some r) :
    Calls Try.prog 3 #[.string a0, .int .u8 a1] w fun e w' => e = .returned (.bool r) ∧ Below w.heap.size w w' := by
  have HB := Aside0.mk (Below.refl w.heap.size w)
  have H : (if (a0.size : Int) > 2147483647 then (some true) else ((spec_Single.f k a0).bind fun t115 => (if t115 = true then (if (a0.size : Int) = 0 then (none) else (if 0 ≤ (Int.tmod (wrap64 (a1)) (a0.size : Int)) then (if (Int.tmod (wrap64 (a1)) (a0.size : Int)) ≤ (a0.size : Int) then ((impl_SgParse.f k (a0.extract 0 ((Int.tmod (wrap64 (a1)) (a0.size : Int)) : Int).toNat)).bind fun bt116 => ((impl_SgParse.f k a0).bind fun bt118 => (if (bt116.2 == ((Int.tmod (wrap64 (a1)) (a0.size : Int)) == 0)) = true then (some bt118.2) else (some false)))) else (none)) else (none))) else (some true)))) = some r := h
  clear h
  by_cases c3 : (a0.size : Int) > 2147483647
  · rw [if_pos c3] at H
    have c3b0 : decide (2147483647 < (a0.size : Int)) = true := decide_eq_true c3
    have c3b1 : decide (2147483647 < a0.size) = true := decide_eq_true (by omega)
    clear c3
    obtain rfl := Option.some.inj H
    go_enter Try.func3, Try.ntmps3
    go_wp2
    go_ret
    exact ⟨by first | rfl | (simp [errW_none, errW_some] <;> rfl) | (simp [*, errW_none, errW_some] <;> rfl), by repeat (first | (with_reducible first | exact HB.out | apply below_alloc | apply pw_below_drewN | apply below_drew1) | exact HB.out)⟩
  · rw [if_neg c3] at H
    have c3b0 : decide (2147483647 < (a0.size : Int)) = false := decide_eq_false c3
    have c3b1 : decide (2147483647 < a0.size) = false := decide_eq_false (by omega)
    clear c3
    replace H := Option.bind_eq_some_iff.mp H
    obtain ⟨t115, A40, H⟩ := H
    replace H : (if t115 = true then (if (a0.size : Int) = 0 then (none) else (if 0 ≤ (Int.tmod (wrap64 (a1)) (a0.size : Int)) then (if (Int.tmod (wrap64 (a1)) (a0.size : Int)) ≤ (a0.size : Int) then ((impl_SgParse.f k (a0.extract 0 ((Int.tmod (wrap64 (a1)) (a0.size : Int)) : Int).toNat)).bind fun bt116 => ((impl_SgParse.f k a0).bind fun bt118 => (if (bt116.2 == ((Int.tmod (wrap64 (a1)) (a0.size : Int)) == 0)) = true then (some bt118.2) else (some false)))) else (none)) else (none))) else (some true)) = some r := H
    have A4 := Aside0.mk A40
    clear A40
    by_cases c5 : t115 = true
    · subst c5
      have H1 : (if (a0.size : Int) = 0 then (none) else (if 0 ≤ (Int.tmod (wrap64 (a1)) (a0.size : Int)) then (if (Int.tmod (wrap64 (a1)) (a0.size : Int)) ≤ (a0.size : Int) then ((impl_SgParse.f k (a0.extract 0 ((Int.tmod (wrap64 (a1)) (a0.size : Int)) : Int).toNat)).bind fun bt116 => ((impl_SgParse.f k a0).bind fun bt118 => (if (bt116.2 == ((Int.tmod (wrap64 (a1)) (a0.size : Int)) == 0)) = true then (some bt118.2) else (some false)))) else (none)) else (none))) = some r := by rw [if_pos rfl] at H; exact H
      clear H
      have H := H1
      clear H1
      by_cases c6 : (a0.size : Int) = 0
      · rw [if_pos c6] at H
        exact absurd H (by simp)
      · rw [if_neg c6] at H
        have c6b0 : ((a0.size : Int) == 0) = false := beq_eq_false_iff_ne.mpr c6
        have c6b1 : ((a0.size : Int) != 0) = true := bne_iff_ne.mpr c6
        obtain ⟨ji7, hji7⟩ : ∃ j_ : Int, (Int.tmod (wrap64 (a1)) (a0.size : Int)) = j_ := ⟨_, rfl⟩
        replace H : (if 0 ≤ (ji7) then (if (ji7) ≤ (a0.size : Int) then ((impl_SgParse.f k (a0.extract 0 ((ji7) : Int).toNat)).bind fun bt116 => ((impl_SgParse.f k a0).bind fun bt118 => (if (bt116.2 == ((ji7) == 0)) = true then (some bt118.2) else (some false)))) else (none)) else (none)) = some r := by first | (rw [hji7] at H; exact H) | (simp only [hji7] at H ⊢; exact H)
        (try rw [hji7] at A4)
        by_cases c8 : 0 ≤ (ji7)
        · rw [if_pos c8] at H
          have c8b0 := eq_true c8
          have c8b1 : decide (0 ≤ (ji7)) = true := decide_eq_true c8
          clear c8
          by_cases c9 : (ji7) ≤ (a0.size : Int)
          · rw [if_pos c9] at H
            have c9b0 := eq_true c9
            have c9b1 : decide ((ji7) ≤ (a0.size : Int)) = true := decide_eq_true c9
            clear c9
            replace H := Option.bind_eq_some_iff.mp H
            obtain ⟨⟨t116, t117⟩, A100, H⟩ := H
            replace H : ((impl_SgParse.f k a0).bind fun bt118 => (if (t117 == ((ji7) == 0)) = true then (some bt118.2) else (some false))) = some r := H
            have A10 := Aside0.mk A100
            clear A100
            replace H := Option.bind_eq_some_iff.mp H
            obtain ⟨⟨t118, t119⟩, A110, H⟩ := H
            replace H : (if (t117 == ((ji7) == 0)) = true then (some t119) else (some false)) = some r := H
            have A11 := Aside0.mk A110
            clear A110
            by_cases c12 : (t117 == ((ji7) == 0)) = true
            · rw [if_pos c12] at H
              have c12b0 : (t117 == ((ji7) == 0)) = true := c12
              (try (have c12b1 : decide (t117 = ((ji7) == 0)) = true := by simpa using c12))
              (try (have c12b2 : (t117 == ((ji7) == 0)) = true := by simpa using c12))
              clear c12
              obtain rfl := Option.some.inj H
              go_enter Try.func3, Try.ntmps3
              go_wp2_with (first | ((with_reducible refine gate_callee (f := 9) rfl ?_); refine goesL_ (some 14) rfl rfl Try.func9 (by kernel_rfl) rfl #[.string a0] rfl (by (try simp only [List.map_toArray, List.map_cons, List.map_nil]); first | done | rfl | (simp only [List.length_drop, List.length_take]; rfl)) ?_; (with_reducible refine (spec_Single.calls k a0 true _ A4.out).mono ?_); rintro e w13 ⟨rfl, hb⟩; refine ⟨_, rfl, ?_⟩; have n0_ := Aside0.mk (below_step (by repeat (first | (with_reducible first | exact HB.out | apply below_alloc | apply pw_below_drewN | apply below_drew1) | exact HB.out)) hb); clear HB; have HB := n0_; clear n0_; (try clear hb); (try clear hb2); (try clear hk); (try clear hi)) | ((with_reducible refine gate_callee (f := 10) rfl ?_); refine goesL_ (some 25) rfl rfl Try.func10 (by kernel_rfl) rfl #[.string (a0.extract 0 ((ji7) : Int).toNat)] rfl (by (try simp only [List.map_toArray, List.map_cons, List.map_nil]); first | done | (simp only [hji7]; rfl) | rfl | (simp only [List.length_drop, List.length_take]; rfl)) ?_; (with_reducible refine (impl_SgParse.calls k (a0.extract 0 ((ji7) : Int).toNat) t116 t117 _ A10.out).mono ?_); rintro e w14 ⟨rfl, hb⟩; refine ⟨_, rfl, ?_⟩; have n0_ := Aside0.mk (below_step (by repeat (first | (with_reducible first | exact HB.out | apply below_alloc | apply pw_below_drewN | apply below_drew1) | exact HB.out)) hb); clear HB; have HB := n0_; clear n0_; (try clear hb); (try clear hb2); (try clear hk); (try clear hi)) | ((with_reducible refine gate_callee (f := 10) rfl ?_); refine goesL_ (some 30) rfl rfl Try.func10 (by kernel_rfl) rfl #[.string a0] rfl (by (try simp only [List.map_toArray, List.map_cons, List.map_nil]); first | done | rfl | (simp only [List.length_drop, List.length_take]; rfl)) ?_; (with_reducible refine (impl_SgParse.calls k a0 t118 t119 _ A11.out).mono ?_); rintro e w15 ⟨rfl, hb⟩; refine ⟨_, rfl, ?_⟩; have n0_ := Aside0.mk (below_step (by repeat (first | (with_reducible first | exact HB.out | apply below_alloc | apply pw_below_drewN | apply below_drew1) | exact HB.out)) hb); clear HB; have HB := n0_; clear n0_; (try clear hb); (try clear hb2); (try clear hk); (try clear hi)))
              go_ret
              exact ⟨by first | rfl | (simp [errW_none, errW_some] <;> rfl) | (simp only [← hji7]; first | rfl | (simp [errW_none, errW_some] <;> rfl)) | (simp [*, errW_none, errW_some] <;> rfl), by repeat (first | (with_reducible first | exact HB.out | apply below_alloc | apply pw_below_drewN | apply below_drew1) | exact HB.out)⟩
            · rw [if_neg c12] at H
              have c12b0 : (t117 == ((ji7) == 0)) = false := by simpa using c12
              (try (have c12b1 : decide (t117 = ((ji7) == 0)) = false := by simpa using c12))
              (try (have c12b2 : (t117 == ((ji7) == 0)) = false := by simpa using c12))
              (try (have c12b3 : ¬ (t117 = ((ji7) == 0)) := by simpa using c12))
              clear c12
              obtain rfl := Option.some.inj H
              go_enter Try.func3, Try.ntmps3
              go_wp2_with (first | ((with_reducible refine gate_callee (f := 9) rfl ?_); refine goesL_ (some 14) rfl rfl Try.func9 (by kernel_rfl) rfl #[.string a0] rfl (by (try simp only [List.map_toArray, List.map_cons, List.map_nil]); first | done | rfl | (simp only [List.length_drop, List.length_take]; rfl)) ?_; (with_reducible refine (spec_Single.calls k a0 true _ A4.out).mono ?_); rintro e w16 ⟨rfl, hb⟩; refine ⟨_, rfl, ?_⟩; have n0_ := Aside0.mk (below_step (by repeat (first | (with_reducible first | exact HB.out | apply below_alloc | apply pw_below_drewN | apply below_drew1) | exact HB.out)) hb); clear HB; have HB := n0_; clear n0_; (try clear hb); (try clear hb2); (try clear hk); (try clear hi)) | ((with_reducible refine gate_callee (f := 10) rfl ?_); refine goesL_ (some 25) rfl rfl Try.func10 (by kernel_rfl) rfl #[.string (a0.extract 0 ((ji7) : Int).toNat)] rfl (by (try simp only [List.map_toArray, List.map_cons, List.map_nil]); first | done | (simp only [hji7]; rfl) | rfl | (simp only [List.length_drop, List.length_take]; rfl)) ?_; (with_reducible refine (impl_SgParse.calls k (a0.extract 0 ((ji7) : Int).toNat) t116 t117 _ A10.out).mono ?_); rintro e w17 ⟨rfl, hb⟩; refine ⟨_, rfl, ?_⟩; have n0_ := Aside0.mk (below_step (by repeat (first | (with_reducible first | exact HB.out | apply below_alloc | apply pw_below_drewN | apply below_drew1) | exact HB.out)) hb); clear HB; have HB := n0_; clear n0_; (try clear hb); (try clear hb2); (try clear hk); (try clear hi)) | ((with_reducible refine gate_callee (f := 10) rfl ?_); refine goesL_ (some 30) rfl rfl Try.func10 (by kernel_rfl) rfl #[.string a0] rfl (by (try simp only [List.map_toArray, List.map_cons, List.map_nil]); first | done | rfl | (simp only [List.length_drop, List.length_take]; rfl)) ?_; (with_reducible refine (impl_SgParse.calls k a0 t118 t119 _ A11.out).mono ?_); rintro e w18 ⟨rfl, hb⟩; refine ⟨_, rfl, ?_⟩; have n0_ := Aside0.mk (below_step (by repeat (first | (with_reducible first | exact HB.out | apply below_alloc | apply pw_below_drewN | apply below_drew1) | exact HB.out)) hb); clear HB; have HB := n0_; clear n0_; (try clear hb); (try clear hb2); (try clear hk); (try clear hi)))
              go_ret
              exact ⟨by first | rfl | (simp [errW_none, errW_some] <;> rfl) | (simp only [← hji7]; first | rfl | (simp [errW_none, errW_some] <;> rfl)) | (simp [*, errW_none, errW_some] <;> rfl), by repeat (first | (with_reducible first | exact HB.out | apply below_alloc | apply pw_below_drewN | apply below_drew1) | exact HB.out)⟩
          · rw [if_neg c9] at H
            exact absurd H (by simp)
        · rw [if_neg c8] at H
          exact absurd H (by simp)
    · replace c5 := Bool.eq_false_iff.mpr c5
      subst c5
      have H1 : (some true) = some r := by rw [if_neg (show ¬ (false = true) by decide)] at H; exact H
      clear H
      have H := H1
      clear H1
      obtain rfl := Option.some.inj H
      go_enter Try.func3, Try.ntmps3
      go_wp2_with (first | ((with_reducible refine gate_callee (f := 9) rfl ?_); refine goesL_ (some 14) rfl rfl Try.func9 (by kernel_rfl) rfl #[.string a0] rfl (by (try simp only [List.map_toArray, List.map_cons, List.map_nil]); first | done | rfl | (simp only [List.length_drop, List.length_take]; rfl)) ?_; (with_reducible refine (spec_Single.calls k a0 false _ A4.out).mono ?_); rintro e w19 ⟨rfl, hb⟩; refine ⟨_, rfl, ?_⟩; have n0_ := Aside0.mk (below_step (by repeat (first | (with_reducible first | exact HB.out | apply below_alloc | apply pw_below_drewN | apply below_drew1) | exact HB.out)) hb); clear HB; have HB := n0_; clear n0_; (try clear hb); (try clear hb2); (try clear hk); (try clear hi)))
      go_ret
      exact ⟨by first | rfl | (simp [errW_none, errW_some] <;> rfl) | (simp [*, errW_none, errW_some] <;> rfl), by repeat (first | (with_reducible first | exact HB.out | apply below_alloc | apply pw_below_drewN | apply below_drew1) | exact HB.out)⟩

/-- THE ONE PURE STATEMENT of laws_FnSgCut: yours. -/
def laws_FnSgCut.Pure : Prop := ∀ (a0 : ByteArray) (a1 : Int), a0.size ≤ 140737488351232 → (Lit.int .u8 a1).wf = true → ∃ k, laws_FnSgCut.f k a0 a1 = some true
theorem laws_FnSgCut.walk (P : laws_FnSgCut.Pure) (a0 : ByteArray) (a1 : Int) (w : World) (w0 : a0.size ≤ 140737488351232) (w1 : (Lit.int .u8 a1).wf = true) :
    Calls Try.prog 3 #[.string a0, .int .u8 a1] w fun e w' => e = .returned (.bool true) ∧ Below w.heap.size w w' := by
  obtain ⟨k, h⟩ := P a0 a1 w0 w1
  refine (laws_FnSgCut.calls k a0 a1 true w h).mono ?_
  rintro e w' ⟨rfl, hd⟩
  exact ⟨rfl, hd⟩

/-! ### laws_sgRepeat: function 12 -/
def laws_sgRepeat.l0 : Nat → ByteArray → Int → ByteArray → Option (ByteArray)
  | 0, _, _, _ => none
  | k + 1, x0, x1, x5 => if x1 > 0 then (if x5.size + x0.size ≤ 9223372036854775807 then (laws_sgRepeat.l0 k x0 (wrap64 (x1 - 1)) (x5 ++ x0)) else (none)) else (some x5)
def laws_sgRepeat.f (k : Nat) (a0 : ByteArray) (a1 : Int) : Option (ByteArray) := laws_sgRepeat.l0 k a0 a1 (⟨#[]⟩ : ByteArray)
theorem laws_sgRepeat.mono_l : ∀ k, (∀ y0 y1 y2, LeO (laws_sgRepeat.l0 k y0 y1 y2) (laws_sgRepeat.l0 (k + 1) y0 y1 y2))
  | 0 => fun _ _ _ r h => by simp [laws_sgRepeat.l0] at h
  | k + 1 => by
    have ih0 := laws_sgRepeat.mono_l k
    · intro y0 y1 y2
      unfold laws_sgRepeat.l0
      repeat' first
      | (with_reducible exact ih0 _ _ _)
      | (with_reducible exact LeO.refl _)
      | (with_reducible exact LeO.none _)
      | (with_reducible refine LeO.ite ?_ ?_)
      | (with_reducible refine LeO.bind ?_ (fun _ => ?_))
      | exact ih0 _ _ _
      | exact LeO.none _
      | refine LeO.ite ?_ ?_
      | refine LeO.bind ?_ (fun _ => ?_)
theorem laws_sgRepeat.mono : ∀ a0 a1 k, LeO (laws_sgRepeat.f k a0 a1) (laws_sgRepeat.f (k + 1) a0 a1) := by
  intro a0 a1 k
  have ih0 := laws_sgRepeat.mono_l k
  unfold laws_sgRepeat.f
  repeat' first
      | (with_reducible exact ih0 _ _ _)
      | (with_reducible exact LeO.refl _)
      | (with_reducible exact LeO.none _)
      | (with_reducible refine LeO.ite ?_ ?_)
      | (with_reducible refine LeO.bind ?_ (fun _ => ?_))
      | exact ih0 _ _ _
      | exact LeO.none _
      | refine LeO.ite ?_ ?_
      | refine LeO.bind ?_ (fun _ => ?_)
set_option maxHeartbeats 8000000 in
set_option maxRecDepth 100000 in
theorem laws_sgRepeat.calls (k : Nat) (a0 : ByteArray) (a1 : Int) (r : ByteArray) (w : World) (h : laws_sgRepeat.f k a0 a1 = some r) :
    Calls Try.prog 12 #[.string a0, .int .i64 a1] w fun e w' => e = .returned (.string r) ∧ Drawn0 w w' := by
  have H : (laws_sgRepeat.l0 k a0 a1 (⟨#[]⟩ : ByteArray)) = some r := h
  clear h
  have H' := Aside0.mk H
  clear H
  go_enter Try.func12, Try.ntmps12
  go_wp2
  go_loopg [1, 5] k (fun kq v1 v5 w' => ∃ (x1_1 : Int) (x5_1 : ByteArray), v1 = .int .i64 x1_1 ∧ v5 = .string x5_1 ∧ Aside0 (laws_sgRepeat.l0 kq a0 x1_1 x5_1 = some r) ∧ Aside0 (kq ≤ k) ∧ Drawn0 w w')
  case atStart => exact ⟨(a1), ((⟨#[]⟩ : ByteArray)), (by first | rfl | (simp; done) | (simp [*]; done)), (by first | rfl | (simp; done) | (simp [*]; done)), H', ⟨Nat.le_refl _⟩, by repeat (first | exact Drawn0.refl _ | apply Drawn0.step)⟩
  case round =>
    clear H'
    try clear c1
    try clear p2
    obtain ⟨x1_1, x5_1, rfl, rfl, HA, HK1, ⟨m1, rfl⟩⟩ := hrel
    cases gk with
    | zero => exact absurd HA.out (by simp [laws_sgRepeat.l0])
    | succ k1 =>
      have H := HA.out
      clear HA
      simp only [laws_sgRepeat.l0] at H
      by_cases c3 : x1_1 > 0
      · rw [if_pos c3] at H
        have c3b0 : decide (0 < x1_1) = true := decide_eq_true c3
        clear c3
        by_cases c4 : x5_1.size + a0.size ≤ 9223372036854775807
        · rw [if_pos c4] at H
          have c4b0 := eq_true c4
          have c4b1 : decide (x5_1.size + a0.size ≤ 9223372036854775807) = true := decide_eq_true c4
          try have c4b2 : (9223372036854775807 < x5_1.size + a0.size) = False := eq_false (Nat.not_lt.2 c4)
          try (have c4b3 := c4b2; simp only [ByteArray.size_append] at c4b3)
          have H' := Aside0.mk H
          clear H
          go_wp2
          go_roundg k1
          case measure => have := HK1.out; omega
          case rel => exact ⟨(wrap64 (x1_1 - 1)), (x5_1 ++ a0), (by first | rfl | (simp; done) | (simp [*]; done)), (by first | rfl | (simp; done) | (simp [*]; done)), H', ⟨by have := HK1.out; omega⟩, by repeat (first | exact Drawn0.refl _ | apply Drawn0.step)⟩
        · rw [if_neg c4] at H
          exact absurd H (by simp)
      · rw [if_neg c3] at H
        have c3b0 : decide (0 < x1_1) = false := decide_eq_false c3
        clear c3
        obtain rfl := Option.some.inj H
        go_wp2
        go_ret
        exact ⟨by first | rfl | (simp; done) | (simp [*]; done), by repeat (first | exact Drawn0.refl _ | apply Drawn0.step)⟩

/-! ### laws_FnSgDepth: function 4 -/
mutual
def laws_FnSgDepth.j0 : Nat → Int → Int → Int → Bool → Option (Bool)
  | 0, _, _, _, _ => none
  | k + 1, x0, x1, x2, x27 => if x27 = true then (some true) else ((some (([x2] : List Int) : List Int)).bind fun y121 => (if (wrap64 (x0)) ≤ 32 then (laws_FnSgDepth.j1 k (wrap64 (x0)) (wrap64 (x1)) (strOfNums y121) (decide ((wrap64 (x1)) ≤ 32))) else (laws_FnSgDepth.j1 k (wrap64 (x0)) (wrap64 (x1)) (strOfNums y121) false)))
def laws_FnSgDepth.j1 : Nat → Int → Int → ByteArray → Bool → Option (Bool)
  | 0, _, _, _, _ => none
  | k + 1, x7, x8, x9, x10 => (laws_sgRepeat.f k (⟨#[40]⟩ : ByteArray) x8).bind fun t124 => ((laws_sgRepeat.f k (⟨#[97]⟩ : ByteArray) x7).bind fun t125 => (if t124.size + t125.size ≤ 9223372036854775807 then (if (t124 ++ t125).size + x9.size ≤ 9223372036854775807 then ((laws_sgRepeat.f k (⟨#[41]⟩ : ByteArray) x8).bind fun t126 => (if ((t124 ++ t125) ++ x9).size + t126.size ≤ 9223372036854775807 then ((impl_SgParse.f k (((t124 ++ t125) ++ x9) ++ t126)).bind fun bt127 => ((laws_sgRepeat.f k (⟨#[97]⟩ : ByteArray) x7).bind fun t129 => ((laws_sgRepeat.f k (⟨#[40]⟩ : ByteArray) x8).bind fun t130 => (if t129.size + t130.size ≤ 9223372036854775807 then (if (t129 ++ t130).size + x9.size ≤ 9223372036854775807 then ((laws_sgRepeat.f k (⟨#[41]⟩ : ByteArray) x8).bind fun t131 => (if ((t129 ++ t130) ++ x9).size + t131.size ≤ 9223372036854775807 then ((impl_SgParse.f k (((t129 ++ t130) ++ x9) ++ t131)).bind fun bt132 => ((impl_SgParse.f k x9).bind fun bt134 => (if (bt127.2 == x10) = true then (if (bt132.2 == x10) = true then (some bt134.2) else (some false)) else (some false)))) else (none))) else (none)) else (none))))) else (none))) else (none)) else (none)))
end
def laws_FnSgDepth.f (k : Nat) (a0 : Int) (a1 : Int) (a2 : Int) : Option (Bool) := if a0 > 80 then (laws_FnSgDepth.j0 k a0 a1 a2 true) else (if a1 > 80 then (laws_FnSgDepth.j0 k a0 a1 a2 true) else ((spec_Basic.f a2).bind fun t120 => (laws_FnSgDepth.j0 k a0 a1 a2 (!t120))))
theorem laws_FnSgDepth.mono_l : ∀ k, (∀ y0 y1 y2 y3, LeO (laws_FnSgDepth.j0 k y0 y1 y2 y3) (laws_FnSgDepth.j0 (k + 1) y0 y1 y2 y3)) ∧ (∀ y0 y1 y2 y3, LeO (laws_FnSgDepth.j1 k y0 y1 y2 y3) (laws_FnSgDepth.j1 (k + 1) y0 y1 y2 y3))
  | 0 => ⟨fun _ _ _ _ r h => by simp [laws_FnSgDepth.j0] at h, fun _ _ _ _ r h => by simp [laws_FnSgDepth.j1] at h⟩
  | k + 1 => by
    obtain ⟨ih0, ih1⟩ := laws_FnSgDepth.mono_l k
    refine ⟨?_, ?_⟩
    · intro y0 y1 y2 y3
      unfold laws_FnSgDepth.j0
      repeat' first
      | (with_reducible exact ih0 _ _ _ _)
      | (with_reducible exact ih1 _ _ _ _)
      | (with_reducible exact impl_SgParse.mono _ _)
      | (with_reducible exact laws_sgRepeat.mono _ _ _)
      | (with_reducible exact LeO.refl _)
      | (with_reducible exact LeO.none _)
      | (with_reducible refine LeO.ite ?_ ?_)
      | (with_reducible refine LeO.bind ?_ (fun _ => ?_))
      | exact ih0 _ _ _ _
      | exact ih1 _ _ _ _
      | exact impl_SgParse.mono _ _
      | exact laws_sgRepeat.mono _ _ _
      | exact LeO.none _
      | refine LeO.ite ?_ ?_
      | refine LeO.bind ?_ (fun _ => ?_)
    · intro y0 y1 y2 y3
      unfold laws_FnSgDepth.j1
      repeat' first
      | (with_reducible exact ih0 _ _ _ _)
      | (with_reducible exact ih1 _ _ _ _)
      | (with_reducible exact impl_SgParse.mono _ _)
      | (with_reducible exact laws_sgRepeat.mono _ _ _)
      | (with_reducible exact LeO.refl _)
      | (with_reducible exact LeO.none _)
      | (with_reducible refine LeO.ite ?_ ?_)
      | (with_reducible refine LeO.bind ?_ (fun _ => ?_))
      | exact ih0 _ _ _ _
      | exact ih1 _ _ _ _
      | exact impl_SgParse.mono _ _
      | exact laws_sgRepeat.mono _ _ _
      | exact LeO.none _
      | refine LeO.ite ?_ ?_
      | refine LeO.bind ?_ (fun _ => ?_)
theorem laws_FnSgDepth.mono : ∀ a0 a1 a2 k, LeO (laws_FnSgDepth.f k a0 a1 a2) (laws_FnSgDepth.f (k + 1) a0 a1 a2) := by
  intro a0 a1 a2 k
  obtain ⟨ih0, ih1⟩ := laws_FnSgDepth.mono_l k
  unfold laws_FnSgDepth.f
  repeat' first
      | (with_reducible exact ih0 _ _ _ _)
      | (with_reducible exact ih1 _ _ _ _)
      | (with_reducible exact impl_SgParse.mono _ _)
      | (with_reducible exact laws_sgRepeat.mono _ _ _)
      | (with_reducible exact LeO.refl _)
      | (with_reducible exact LeO.none _)
      | (with_reducible refine LeO.ite ?_ ?_)
      | (with_reducible refine LeO.bind ?_ (fun _ => ?_))
      | exact ih0 _ _ _ _
      | exact ih1 _ _ _ _
      | exact impl_SgParse.mono _ _
      | exact laws_sgRepeat.mono _ _ _
      | exact LeO.none _
      | refine LeO.ite ?_ ?_
      | refine LeO.bind ?_ (fun _ => ?_)
set_option maxHeartbeats 8000000 in
set_option maxRecDepth 100000 in
theorem laws_FnSgDepth.calls (k : Nat) (a0 : Int) (a1 : Int) (a2 : Int) (r : Bool) (w : World) (h : laws_FnSgDepth.f k a0 a1 a2 = some r) :
    Calls Try.prog 4 #[.int .u8 a0, .int .u8 a1, .int .u8 a2] w fun e w' => e = .returned (.bool r) ∧ Below w.heap.size w w' := by
  have HB := Aside0.mk (Below.refl w.heap.size w)
  have H : (if a0 > 80 then (laws_FnSgDepth.j0 k a0 a1 a2 true) else (if a1 > 80 then (laws_FnSgDepth.j0 k a0 a1 a2 true) else ((spec_Basic.f a2).bind fun t120 => (laws_FnSgDepth.j0 k a0 a1 a2 (!t120))))) = some r := h
  clear h
  have HC4 := Aside0.mk H
  clear H
  go_enter Try.func4, Try.ntmps4
  go_upto_region 1 with (fail)
  go_cut [27] (fun v27 wc => ∃ (kq : Nat) (x27_3 : Bool), v27 = .bool x27_3 ∧ Aside0 (laws_FnSgDepth.j0 kq a0 a1 a2 x27_3 = some r) ∧ Aside0 (kq ≤ k) ∧ Aside0 (Below w.heap.size w wc))
  case first =>
    have H := HC4.out
    clear HC4
    by_cases c5 : a0 > 80
    · rw [if_pos c5] at H
      have c5b0 : decide (80 < a0) = true := decide_eq_true c5
      clear c5
      (first | rw [c5b0] | (simp only [i64_w, i32_w]; rw [c5b0]) | skip)
      have H' := Aside0.mk H
      clear H
      go_wp2
      go_meet
      case rel => exact ⟨_, (true), (by first | rfl | (simp; done) | (simp [*]; done)), H', ⟨by first | omega | exact Nat.le_refl _⟩, ⟨by repeat (first | (with_reducible first | exact HB.out | apply below_alloc | apply pw_below_drewN | apply below_drew1) | exact HB.out)⟩⟩
    · rw [if_neg c5] at H
      have c5b0 : decide (80 < a0) = false := decide_eq_false c5
      clear c5
      (first | rw [c5b0] | (simp only [i64_w, i32_w]; rw [c5b0]) | skip)
      by_cases c6 : a1 > 80
      · rw [if_pos c6] at H
        have c6b0 : decide (80 < a1) = true := decide_eq_true c6
        clear c6
        have H' := Aside0.mk H
        clear H
        go_wp2
        go_meet
        case rel => exact ⟨_, (true), (by first | rfl | (simp; done) | (simp [*]; done)), H', ⟨by first | omega | exact Nat.le_refl _⟩, ⟨by repeat (first | (with_reducible first | exact HB.out | apply below_alloc | apply pw_below_drewN | apply below_drew1) | exact HB.out)⟩⟩
      · rw [if_neg c6] at H
        have c6b0 : decide (80 < a1) = false := decide_eq_false c6
        clear c6
        replace H := Option.bind_eq_some_iff.mp H
        obtain ⟨t120, A70, H⟩ := H
        replace H : (laws_FnSgDepth.j0 k a0 a1 a2 (!t120)) = some r := H
        have A7 := Aside0.mk A70
        clear A70
        have H' := Aside0.mk H
        clear H
        go_wp2_with (first | (go_at_call 11; (with_reducible refine (spec_Basic.calls a2 t120 _ A7.out).mono ?_); rintro e w' ⟨rfl, ⟨nd, rfl⟩⟩))
        go_meet
        case rel => exact ⟨_, (!t120), (by first | rfl | (simp; done) | (simp [*]; done)), H', ⟨by first | omega | exact Nat.le_refl _⟩, ⟨by repeat (first | (with_reducible first | exact HB.out | apply below_alloc | apply pw_below_drewN | apply below_drew1) | exact HB.out)⟩⟩
  case rest =>
    clear HC4
    try clear p2
    try clear c4
    try clear c5
    try clear c5b0
    try clear c6
    try clear c6b0
    obtain ⟨kq, x27_3, rfl, HA, HJ3, HB⟩ := hcut
    cases kq with
    | zero => exact absurd HA.out (by simp [laws_FnSgDepth.j0])
    | succ kj3 =>
      have H := HA.out
      clear HA
      simp only [laws_FnSgDepth.j0] at H
      by_cases c8 : x27_3 = true
      · subst c8
        have H1 : (some true) = some r := by rw [if_pos rfl] at H; exact H
        clear H
        have H := H1
        clear H1
        obtain rfl := Option.some.inj H
        go_wp2
        go_ret
        exact ⟨by first | rfl | (simp [errW_none, errW_some] <;> rfl) | (simp [*, errW_none, errW_some] <;> rfl), by repeat (first | (with_reducible first | exact HB.out | apply below_alloc | apply pw_below_drewN | apply below_drew1) | exact HB.out)⟩
      · replace c8 := Bool.eq_false_iff.mpr c8
        subst c8
        have H1 : ((some (([a2] : List Int) : List Int)).bind fun y121 => (if (wrap64 (a0)) ≤ 32 then (laws_FnSgDepth.j1 kj3 (wrap64 (a0)) (wrap64 (a1)) (strOfNums y121) (decide ((wrap64 (a1)) ≤ 32))) else (laws_FnSgDepth.j1 kj3 (wrap64 (a0)) (wrap64 (a1)) (strOfNums y121) false))) = some r := by rw [if_neg (show ¬ (false = true) by decide)] at H; exact H
        clear H
        have H := H1
        clear H1
        obtain ⟨y121, hy121⟩ : ∃ y_ : List Int, y_ = (([a2] : List Int)) := ⟨_, rfl⟩
        replace H : (if (wrap64 (a0)) ≤ 32 then (laws_FnSgDepth.j1 kj3 (wrap64 (a0)) (wrap64 (a1)) (strOfNums y121) (decide ((wrap64 (a1)) ≤ 32))) else (laws_FnSgDepth.j1 kj3 (wrap64 (a0)) (wrap64 (a1)) (strOfNums y121) false)) = some r := by first | (rw [hy121]; with_reducible exact H) | (have H2_ := (Option.bind_some _ _).symm.trans H; rw [hy121]; with_reducible exact H2_) | (have H2_ := (Option.bind_some _ _).symm.trans H; with_reducible exact H2_) | with_reducible exact H | (rw [hy121]; exact H) | exact H
        have Ny121 := Aside0.mk hy121
        clear hy121
        have HC9 := Aside0.mk H
        clear H
        go_upto_region 5 with (first | ((with_reducible refine gate_dst (N := 33) rfl ?_); refine Kd.R_lit (Kd.int .u8) _ 5 ?hg (N := 33) ?hd (xs := ([a2] : List Int)) (inner := [.int .u8 a2]) (ok := fun _ => True) (okp := fun _ => True) ?hr ?hp (fun _ hk => hk) trivial (Below.refl _ _) (Nat.le_refl _) (by simp) ?_; (case hd => rfl); (case hg => rfl); (case hr => first | (go_simp; done) | (go_simp; rfl)); (case hp => exact (Reps.one (show Kd.M (Kd.int .u8) _ _ _ a2 [.int .u8 a2] from rfl) (Reps.none _ _))); intro v122 w10 ho11 hb hg_ hnew_; clear hg_ hnew_; (first | rw [← Ny121.out] at ho11 | (simp only [Int.reduceToNat] at ho11; rw [← Ny121.out] at ho11)); have n0_ := Aside0.mk (Kd.R_lower ho11 (below_size (by repeat (first | (with_reducible first | exact HB.out | apply below_alloc | apply pw_below_drewN | apply below_drew1) | exact HB.out)))); have n1_ := Aside0.mk (below_step (by repeat (first | (with_reducible first | exact HB.out | apply below_alloc | apply pw_below_drewN | apply below_drew1) | exact HB.out)) hb); clear HB; have HO123 := n0_; have HB := n1_; clear n0_ n1_; clear hb ho11; have hcv12 := own_string (P := Try.prog) Try.underlying27 Try.underlying5 Try.underlying9 (Kd.own_of_R HO123.out)))
        (try simp only [Act.put, List.setIfInBounds_toArray, List.set_cons_zero, List.set_cons_succ])
        go_cut [10] (fun v10 wc => ∃ (kq : Nat) (x10_8 : Bool), v10 = .bool x10_8 ∧ Aside0 (laws_FnSgDepth.j1 kq (wrap64 (a0)) (wrap64 (a1)) (strOfNums y121) x10_8 = some r) ∧ Aside0 (kq ≤ kj3) ∧ Aside0 (Below w.heap.size w wc))
        case first =>
          have H := HC9.out
          clear HC9
          by_cases c13 : (wrap64 (a0)) ≤ 32
          · rw [if_pos c13] at H
            have c13b0 : decide ((wrap64 (a0)) ≤ 32) = true := decide_eq_true c13
            clear c13
            (first | rw [c13b0] | (simp only [i64_w, i32_w]; rw [c13b0]) | skip)
            have H' := Aside0.mk H
            clear H
            go_wp2
            go_meet
            case rel => exact ⟨_, (decide ((wrap64 (a1)) ≤ 32)), (by first | rfl | (simp; done) | (simp [*]; done)), H', ⟨by have := HJ3.out; first | omega | exact Nat.le_refl _⟩, ⟨by repeat (first | (with_reducible first | exact HB.out | apply below_alloc | apply pw_below_drewN | apply below_drew1) | exact HB.out)⟩⟩
          · rw [if_neg c13] at H
            have c13b0 : decide ((wrap64 (a0)) ≤ 32) = false := decide_eq_false c13
            clear c13
            (first | rw [c13b0] | (simp only [i64_w, i32_w]; rw [c13b0]) | skip)
            have H' := Aside0.mk H
            clear H
            go_wp2
            go_meet
            case rel => exact ⟨_, (false), (by first | rfl | (simp; done) | (simp [*]; done)), H', ⟨by have := HJ3.out; first | omega | exact Nat.le_refl _⟩, ⟨by repeat (first | (with_reducible first | exact HB.out | apply below_alloc | apply pw_below_drewN | apply below_drew1) | exact HB.out)⟩⟩
        case rest =>
          clear HC9
          try clear c1
          try clear hcv1
          try clear p2
          try clear c4
          try clear c5
          try clear c5b0
          try clear c6
          try clear c6b0
          try clear p6
          try clear c8
          try clear hcv12
          try clear c13
          try clear c13b0
          try clear p2
          obtain ⟨kq, x10_8, rfl, HA, HJ8, HB⟩ := hcut
          cases kq with
          | zero => exact absurd HA.out (by simp [laws_FnSgDepth.j1])
          | succ kj8 =>
            have H := HA.out
            clear HA
            simp only [laws_FnSgDepth.j1] at H
            replace H := Option.bind_eq_some_iff.mp H
            obtain ⟨t124, A140, H⟩ := H
            replace H : ((laws_sgRepeat.f kj8 (⟨#[97]⟩ : ByteArray) (wrap64 (a0))).bind fun t125 => (if t124.size + t125.size ≤ 9223372036854775807 then (if (t124 ++ t125).size + (strOfNums y121).size ≤ 9223372036854775807 then ((laws_sgRepeat.f kj8 (⟨#[41]⟩ : ByteArray) (wrap64 (a1))).bind fun t126 => (if ((t124 ++ t125) ++ (strOfNums y121)).size + t126.size ≤ 9223372036854775807 then ((impl_SgParse.f kj8 (((t124 ++ t125) ++ (strOfNums y121)) ++ t126)).bind fun bt127 => ((laws_sgRepeat.f kj8 (⟨#[97]⟩ : ByteArray) (wrap64 (a0))).bind fun t129 => ((laws_sgRepeat.f kj8 (⟨#[40]⟩ : ByteArray) (wrap64 (a1))).bind fun t130 => (if t129.size + t130.size ≤ 9223372036854775807 then (if (t129 ++ t130).size + (strOfNums y121).size ≤ 9223372036854775807 then ((laws_sgRepeat.f kj8 (⟨#[41]⟩ : ByteArray) (wrap64 (a1))).bind fun t131 => (if ((t129 ++ t130) ++ (strOfNums y121)).size + t131.size ≤ 9223372036854775807 then ((impl_SgParse.f kj8 (((t129 ++ t130) ++ (strOfNums y121)) ++ t131)).bind fun bt132 => ((impl_SgParse.f kj8 (strOfNums y121)).bind fun bt134 => (if (bt127.2 == x10_8) = true then (if (bt132.2 == x10_8) = true then (some bt134.2) else (some false)) else (some false)))) else (none))) else (none)) else (none))))) else (none))) else (none)) else (none))) = some r := H
            have A14 := Aside0.mk A140
            clear A140
            replace H := Option.bind_eq_some_iff.mp H
            obtain ⟨t125, A150, H⟩ := H
            replace H : (if t124.size + t125.size ≤ 9223372036854775807 then (if (t124 ++ t125).size + (strOfNums y121).size ≤ 9223372036854775807 then ((laws_sgRepeat.f kj8 (⟨#[41]⟩ : ByteArray) (wrap64 (a1))).bind fun t126 => (if ((t124 ++ t125) ++ (strOfNums y121)).size + t126.size ≤ 9223372036854775807 then ((impl_SgParse.f kj8 (((t124 ++ t125) ++ (strOfNums y121)) ++ t126)).bind fun bt127 => ((laws_sgRepeat.f kj8 (⟨#[97]⟩ : ByteArray) (wrap64 (a0))).bind fun t129 => ((laws_sgRepeat.f kj8 (⟨#[40]⟩ : ByteArray) (wrap64 (a1))).bind fun t130 => (if t129.size + t130.size ≤ 9223372036854775807 then (if (t129 ++ t130).size + (strOfNums y121).size ≤ 9223372036854775807 then ((laws_sgRepeat.f kj8 (⟨#[41]⟩ : ByteArray) (wrap64 (a1))).bind fun t131 => (if ((t129 ++ t130) ++ (strOfNums y121)).size + t131.size ≤ 9223372036854775807 then ((impl_SgParse.f kj8 (((t129 ++ t130) ++ (strOfNums y121)) ++ t131)).bind fun bt132 => ((impl_SgParse.f kj8 (strOfNums y121)).bind fun bt134 => (if (bt127.2 == x10_8) = true then (if (bt132.2 == x10_8) = true then (some bt134.2) else (some false)) else (some false)))) else (none))) else (none)) else (none))))) else (none))) else (none)) else (none)) = some r := H
            have A15 := Aside0.mk A150
            clear A150
            by_cases c16 : t124.size + t125.size ≤ 9223372036854775807
            · rw [if_pos c16] at H
              have c16b0 := eq_true c16
              have c16b1 : decide (t124.size + t125.size ≤ 9223372036854775807) = true := decide_eq_true c16
              try have c16b2 : (9223372036854775807 < t124.size + t125.size) = False := eq_false (Nat.not_lt.2 c16)
              try (have c16b3 := c16b2; simp only [ByteArray.size_append] at c16b3)
              by_cases c17 : (t124 ++ t125).size + (strOfNums y121).size ≤ 9223372036854775807
              · rw [if_pos c17] at H
                have c17b0 := eq_true c17
                have c17b1 : decide ((t124 ++ t125).size + (strOfNums y121).size ≤ 9223372036854775807) = true := decide_eq_true c17
                try have c17b2 : (9223372036854775807 < (t124 ++ t125).size + (strOfNums y121).size) = False := eq_false (Nat.not_lt.2 c17)
                try (have c17b3 := c17b2; simp only [ByteArray.size_append] at c17b3)
                replace H := Option.bind_eq_some_iff.mp H
                obtain ⟨t126, A180, H⟩ := H
                replace H : (if ((t124 ++ t125) ++ (strOfNums y121)).size + t126.size ≤ 9223372036854775807 then ((impl_SgParse.f kj8 (((t124 ++ t125) ++ (strOfNums y121)) ++ t126)).bind fun bt127 => ((laws_sgRepeat.f kj8 (⟨#[97]⟩ : ByteArray) (wrap64 (a0))).bind fun t129 => ((laws_sgRepeat.f kj8 (⟨#[40]⟩ : ByteArray) (wrap64 (a1))).bind fun t130 => (if t129.size + t130.size ≤ 9223372036854775807 then (if (t129 ++ t130).size + (strOfNums y121).size ≤ 9223372036854775807 then ((laws_sgRepeat.f kj8 (⟨#[41]⟩ : ByteArray) (wrap64 (a1))).bind fun t131 => (if ((t129 ++ t130) ++ (strOfNums y121)).size + t131.size ≤ 9223372036854775807 then ((impl_SgParse.f kj8 (((t129 ++ t130) ++ (strOfNums y121)) ++ t131)).bind fun bt132 => ((impl_SgParse.f kj8 (strOfNums y121)).bind fun bt134 => (if (bt127.2 == x10_8) = true then (if (bt132.2 == x10_8) = true then (some bt134.2) else (some false)) else (some false)))) else (none))) else (none)) else (none))))) else (none)) = some r := H
                have A18 := Aside0.mk A180
                clear A180
                by_cases c19 : ((t124 ++ t125) ++ (strOfNums y121)).size + t126.size ≤ 9223372036854775807
                · rw [if_pos c19] at H
                  have c19b0 := eq_true c19
                  have c19b1 : decide (((t124 ++ t125) ++ (strOfNums y121)).size + t126.size ≤ 9223372036854775807) = true := decide_eq_true c19
                  try have c19b2 : (9223372036854775807 < ((t124 ++ t125) ++ (strOfNums y121)).size + t126.size) = False := eq_false (Nat.not_lt.2 c19)
                  try (have c19b3 := c19b2; simp only [ByteArray.size_append] at c19b3)
                  replace H := Option.bind_eq_some_iff.mp H
                  obtain ⟨⟨t127, t128⟩, A200, H⟩ := H
                  replace H : ((laws_sgRepeat.f kj8 (⟨#[97]⟩ : ByteArray) (wrap64 (a0))).bind fun t129 => ((laws_sgRepeat.f kj8 (⟨#[40]⟩ : ByteArray) (wrap64 (a1))).bind fun t130 => (if t129.size + t130.size ≤ 9223372036854775807 then (if (t129 ++ t130).size + (strOfNums y121).size ≤ 9223372036854775807 then ((laws_sgRepeat.f kj8 (⟨#[41]⟩ : ByteArray) (wrap64 (a1))).bind fun t131 => (if ((t129 ++ t130) ++ (strOfNums y121)).size + t131.size ≤ 9223372036854775807 then ((impl_SgParse.f kj8 (((t129 ++ t130) ++ (strOfNums y121)) ++ t131)).bind fun bt132 => ((impl_SgParse.f kj8 (strOfNums y121)).bind fun bt134 => (if (t128 == x10_8) = true then (if (bt132.2 == x10_8) = true then (some bt134.2) else (some false)) else (some false)))) else (none))) else (none)) else (none)))) = some r := H
                  have A20 := Aside0.mk A200
                  clear A200
                  replace H := Option.bind_eq_some_iff.mp H
                  obtain ⟨t129, A210, H⟩ := H
                  replace H : ((laws_sgRepeat.f kj8 (⟨#[40]⟩ : ByteArray) (wrap64 (a1))).bind fun t130 => (if t129.size + t130.size ≤ 9223372036854775807 then (if (t129 ++ t130).size + (strOfNums y121).size ≤ 9223372036854775807 then ((laws_sgRepeat.f kj8 (⟨#[41]⟩ : ByteArray) (wrap64 (a1))).bind fun t131 => (if ((t129 ++ t130) ++ (strOfNums y121)).size + t131.size ≤ 9223372036854775807 then ((impl_SgParse.f kj8 (((t129 ++ t130) ++ (strOfNums y121)) ++ t131)).bind fun bt132 => ((impl_SgParse.f kj8 (strOfNums y121)).bind fun bt134 => (if (t128 == x10_8) = true then (if (bt132.2 == x10_8) = true then (some bt134.2) else (some false)) else (some false)))) else (none))) else (none)) else (none))) = some r := H
                  have A21 := Aside0.mk A210
                  clear A210
                  replace H := Option.bind_eq_some_iff.mp H
                  obtain ⟨t130, A220, H⟩ := H
                  replace H : (if t129.size + t130.size ≤ 9223372036854775807 then (if (t129 ++ t130).size + (strOfNums y121).size ≤ 9223372036854775807 then ((laws_sgRepeat.f kj8 (⟨#[41]⟩ : ByteArray) (wrap64 (a1))).bind fun t131 => (if ((t129 ++ t130) ++ (strOfNums y121)).size + t131.size ≤ 9223372036854775807 then ((impl_SgParse.f kj8 (((t129 ++ t130) ++ (strOfNums y121)) ++ t131)).bind fun bt132 => ((impl_SgParse.f kj8 (strOfNums y121)).bind fun bt134 => (if (t128 == x10_8) = true then (if (bt132.2 == x10_8) = true then (some bt134.2) else (some false)) else (some false)))) else (none))) else (none)) else (none)) = some r := H
                  have A22 := Aside0.mk A220
                  clear A220
                  by_cases c23 : t129.size + t130.size ≤ 9223372036854775807
                  · rw [if_pos c23] at H
                    have c23b0 := eq_true c23
                    have c23b1 : decide (t129.size + t130.size ≤ 9223372036854775807) = true := decide_eq_true c23
                    try have c23b2 : (9223372036854775807 < t129.size + t130.size) = False := eq_false (Nat.not_lt.2 c23)
                    try (have c23b3 := c23b2; simp only [ByteArray.size_append] at c23b3)
                    by_cases c24 : (t129 ++ t130).size + (strOfNums y121).size ≤ 9223372036854775807
                    · rw [if_pos c24] at H
                      have c24b0 := eq_true c24
                      have c24b1 : decide ((t129 ++ t130).size + (strOfNums y121).size ≤ 9223372036854775807) = true := decide_eq_true c24
                      try have c24b2 : (9223372036854775807 < (t129 ++ t130).size + (strOfNums y121).size) = False := eq_false (Nat.not_lt.2 c24)
                      try (have c24b3 := c24b2; simp only [ByteArray.size_append] at c24b3)
                      replace H := Option.bind_eq_some_iff.mp H
                      obtain ⟨t131, A250, H⟩ := H
                      replace H : (if ((t129 ++ t130) ++ (strOfNums y121)).size + t131.size ≤ 9223372036854775807 then ((impl_SgParse.f kj8 (((t129 ++ t130) ++ (strOfNums y121)) ++ t131)).bind fun bt132 => ((impl_SgParse.f kj8 (strOfNums y121)).bind fun bt134 => (if (t128 == x10_8) = true then (if (bt132.2 == x10_8) = true then (some bt134.2) else (some false)) else (some false)))) else (none)) = some r := H
                      have A25 := Aside0.mk A250
                      clear A250
                      by_cases c26 : ((t129 ++ t130) ++ (strOfNums y121)).size + t131.size ≤ 9223372036854775807
                      · rw [if_pos c26] at H
                        have c26b0 := eq_true c26
                        have c26b1 : decide (((t129 ++ t130) ++ (strOfNums y121)).size + t131.size ≤ 9223372036854775807) = true := decide_eq_true c26
                        try have c26b2 : (9223372036854775807 < ((t129 ++ t130) ++ (strOfNums y121)).size + t131.size) = False := eq_false (Nat.not_lt.2 c26)
                        try (have c26b3 := c26b2; simp only [ByteArray.size_append] at c26b3)
                        replace H := Option.bind_eq_some_iff.mp H
                        obtain ⟨⟨t132, t133⟩, A270, H⟩ := H
                        replace H : ((impl_SgParse.f kj8 (strOfNums y121)).bind fun bt134 => (if (t128 == x10_8) = true then (if (t133 == x10_8) = true then (some bt134.2) else (some false)) else (some false))) = some r := H
                        have A27 := Aside0.mk A270
                        clear A270
                        replace H := Option.bind_eq_some_iff.mp H
                        obtain ⟨⟨t134, t135⟩, A280, H⟩ := H
                        replace H : (if (t128 == x10_8) = true then (if (t133 == x10_8) = true then (some t135) else (some false)) else (some false)) = some r := H
                        have A28 := Aside0.mk A280
                        clear A280
                        by_cases c29 : (t128 == x10_8) = true
                        · rw [if_pos c29] at H
                          have c29b0 : (t128 == x10_8) = true := c29
                          (try (have c29b1 : decide (t128 = x10_8) = true := by simpa using c29))
                          (try (have c29b2 : (t128 == x10_8) = true := by simpa using c29))
                          clear c29
                          by_cases c30 : (t133 == x10_8) = true
                          · rw [if_pos c30] at H
                            have c30b0 : (t133 == x10_8) = true := c30
                            (try (have c30b1 : decide (t133 = x10_8) = true := by simpa using c30))
                            (try (have c30b2 : (t133 == x10_8) = true := by simpa using c30))
                            clear c30
                            obtain rfl := Option.some.inj H
                            go_wp2_with (first | ((with_reducible refine gate_callee (f := 12) rfl ?_); refine goesL_ (some 43) rfl rfl Try.func12 (by kernel_rfl) rfl #[.string (⟨#[40]⟩ : ByteArray), .int .i64 (wrap64 (a1))] rfl (by (try simp only [List.map_toArray, List.map_cons, List.map_nil]); first | done | rfl | (simp only [List.length_drop, List.length_take]; rfl)) ?_; (with_reducible refine (laws_sgRepeat.calls kj8 (⟨#[40]⟩ : ByteArray) (wrap64 (a1)) t124 _ A14.out).mono ?_); rintro e w' ⟨rfl, ⟨nd, rfl⟩⟩; refine ⟨_, rfl, ?_⟩) | ((with_reducible refine gate_callee (f := 12) rfl ?_); refine goesL_ (some 45) rfl rfl Try.func12 (by kernel_rfl) rfl #[.string (⟨#[97]⟩ : ByteArray), .int .i64 (wrap64 (a0))] rfl (by (try simp only [List.map_toArray, List.map_cons, List.map_nil]); first | done | rfl | (simp only [List.length_drop, List.length_take]; rfl)) ?_; (with_reducible refine (laws_sgRepeat.calls kj8 (⟨#[97]⟩ : ByteArray) (wrap64 (a0)) t125 _ A15.out).mono ?_); rintro e w' ⟨rfl, ⟨nd, rfl⟩⟩; refine ⟨_, rfl, ?_⟩) | ((with_reducible refine gate_callee (f := 12) rfl ?_); refine goesL_ (some 50) rfl rfl Try.func12 (by kernel_rfl) rfl #[.string (⟨#[41]⟩ : ByteArray), .int .i64 (wrap64 (a1))] rfl (by (try simp only [List.map_toArray, List.map_cons, List.map_nil]); first | done | rfl | (simp only [List.length_drop, List.length_take]; rfl)) ?_; (with_reducible refine (laws_sgRepeat.calls kj8 (⟨#[41]⟩ : ByteArray) (wrap64 (a1)) t126 _ A18.out).mono ?_); rintro e w' ⟨rfl, ⟨nd, rfl⟩⟩; refine ⟨_, rfl, ?_⟩) | ((with_reducible refine gate_callee (f := 10) rfl ?_); refine goesL_ (some 52) rfl rfl Try.func10 (by kernel_rfl) rfl #[.string (((t124 ++ t125) ++ (strOfNums y121)) ++ t126)] rfl (by (try simp only [List.map_toArray, List.map_cons, List.map_nil]); first | done | rfl | (simp only [List.length_drop, List.length_take]; rfl)) ?_; (with_reducible refine (impl_SgParse.calls kj8 (((t124 ++ t125) ++ (strOfNums y121)) ++ t126) t127 t128 _ A20.out).mono ?_); rintro e w31 ⟨rfl, hb⟩; refine ⟨_, rfl, ?_⟩; have n0_ := Aside0.mk (below_step (by repeat (first | (with_reducible first | exact HB.out | apply below_alloc | apply pw_below_drewN | apply below_drew1) | exact HB.out)) hb); clear HB; have HB := n0_; clear n0_; (try clear hb); (try clear hb2); (try clear hk); (try clear hi)) | ((with_reducible refine gate_callee (f := 12) rfl ?_); refine goesL_ (some 57) rfl rfl Try.func12 (by kernel_rfl) rfl #[.string (⟨#[97]⟩ : ByteArray), .int .i64 (wrap64 (a0))] rfl (by (try simp only [List.map_toArray, List.map_cons, List.map_nil]); first | done | rfl | (simp only [List.length_drop, List.length_take]; rfl)) ?_; (with_reducible refine (laws_sgRepeat.calls kj8 (⟨#[97]⟩ : ByteArray) (wrap64 (a0)) t129 _ A21.out).mono ?_); rintro e w' ⟨rfl, ⟨nd, rfl⟩⟩; refine ⟨_, rfl, ?_⟩) | ((with_reducible refine gate_callee (f := 12) rfl ?_); refine goesL_ (some 59) rfl rfl Try.func12 (by kernel_rfl) rfl #[.string (⟨#[40]⟩ : ByteArray), .int .i64 (wrap64 (a1))] rfl (by (try simp only [List.map_toArray, List.map_cons, List.map_nil]); first | done | rfl | (simp only [List.length_drop, List.length_take]; rfl)) ?_; (with_reducible refine (laws_sgRepeat.calls kj8 (⟨#[40]⟩ : ByteArray) (wrap64 (a1)) t130 _ A22.out).mono ?_); rintro e w' ⟨rfl, ⟨nd, rfl⟩⟩; refine ⟨_, rfl, ?_⟩) | ((with_reducible refine gate_callee (f := 12) rfl ?_); refine goesL_ (some 64) rfl rfl Try.func12 (by kernel_rfl) rfl #[.string (⟨#[41]⟩ : ByteArray), .int .i64 (wrap64 (a1))] rfl (by (try simp only [List.map_toArray, List.map_cons, List.map_nil]); first | done | rfl | (simp only [List.length_drop, List.length_take]; rfl)) ?_; (with_reducible refine (laws_sgRepeat.calls kj8 (⟨#[41]⟩ : ByteArray) (wrap64 (a1)) t131 _ A25.out).mono ?_); rintro e w' ⟨rfl, ⟨nd, rfl⟩⟩; refine ⟨_, rfl, ?_⟩) | ((with_reducible refine gate_callee (f := 10) rfl ?_); refine goesL_ (some 66) rfl rfl Try.func10 (by kernel_rfl) rfl #[.string (((t129 ++ t130) ++ (strOfNums y121)) ++ t131)] rfl (by (try simp only [List.map_toArray, List.map_cons, List.map_nil]); first | done | rfl | (simp only [List.length_drop, List.length_take]; rfl)) ?_; (with_reducible refine (impl_SgParse.calls kj8 (((t129 ++ t130) ++ (strOfNums y121)) ++ t131) t132 t133 _ A27.out).mono ?_); rintro e w32 ⟨rfl, hb⟩; refine ⟨_, rfl, ?_⟩; have n0_ := Aside0.mk (below_step (by repeat (first | (with_reducible first | exact HB.out | apply below_alloc | apply pw_below_drewN | apply below_drew1) | exact HB.out)) hb); clear HB; have HB := n0_; clear n0_; (try clear hb); (try clear hb2); (try clear hk); (try clear hi)) | ((with_reducible refine gate_callee (f := 10) rfl ?_); refine goesL_ (some 71) rfl rfl Try.func10 (by kernel_rfl) rfl #[.string (strOfNums y121)] rfl (by (try simp only [List.map_toArray, List.map_cons, List.map_nil]); first | done | rfl | (simp only [List.length_drop, List.length_take]; rfl)) ?_; (with_reducible refine (impl_SgParse.calls kj8 (strOfNums y121) t134 t135 _ A28.out).mono ?_); rintro e w33 ⟨rfl, hb⟩; refine ⟨_, rfl, ?_⟩; have n0_ := Aside0.mk (below_step (by repeat (first | (with_reducible first | exact HB.out | apply below_alloc | apply pw_below_drewN | apply below_drew1) | exact HB.out)) hb); clear HB; have HB := n0_; clear n0_; (try clear hb); (try clear hb2); (try clear hk); (try clear hi)))
                            go_ret
                            exact ⟨by first | rfl | (simp [errW_none, errW_some] <;> rfl) | (simp [*, errW_none, errW_some] <;> rfl), by repeat (first | (with_reducible first | exact HB.out | apply below_alloc | apply pw_below_drewN | apply below_drew1) | exact HB.out)⟩
                          · rw [if_neg c30] at H
                            have c30b0 : (t133 == x10_8) = false := by simpa using c30
                            (try (have c30b1 : decide (t133 = x10_8) = false := by simpa using c30))
                            (try (have c30b2 : (t133 == x10_8) = false := by simpa using c30))
                            (try (have c30b3 : ¬ (t133 = x10_8) := by simpa using c30))
                            clear c30
                            obtain rfl := Option.some.inj H
                            go_wp2_with (first | ((with_reducible refine gate_callee (f := 12) rfl ?_); refine goesL_ (some 43) rfl rfl Try.func12 (by kernel_rfl) rfl #[.string (⟨#[40]⟩ : ByteArray), .int .i64 (wrap64 (a1))] rfl (by (try simp only [List.map_toArray, List.map_cons, List.map_nil]); first | done | rfl | (simp only [List.length_drop, List.length_take]; rfl)) ?_; (with_reducible refine (laws_sgRepeat.calls kj8 (⟨#[40]⟩ : ByteArray) (wrap64 (a1)) t124 _ A14.out).mono ?_); rintro e w' ⟨rfl, ⟨nd, rfl⟩⟩; refine ⟨_, rfl, ?_⟩) | ((with_reducible refine gate_callee (f := 12) rfl ?_); refine goesL_ (some 45) rfl rfl Try.func12 (by kernel_rfl) rfl #[.string (⟨#[97]⟩ : ByteArray), .int .i64 (wrap64 (a0))] rfl (by (try simp only [List.map_toArray, List.map_cons, List.map_nil]); first | done | rfl | (simp only [List.length_drop, List.length_take]; rfl)) ?_; (with_reducible refine (laws_sgRepeat.calls kj8 (⟨#[97]⟩ : ByteArray) (wrap64 (a0)) t125 _ A15.out).mono ?_); rintro e w' ⟨rfl, ⟨nd, rfl⟩⟩; refine ⟨_, rfl, ?_⟩) | ((with_reducible refine gate_callee (f := 12) rfl ?_); refine goesL_ (some 50) rfl rfl Try.func12 (by kernel_rfl) rfl #[.string (⟨#[41]⟩ : ByteArray), .int .i64 (wrap64 (a1))] rfl (by (try simp only [List.map_toArray, List.map_cons, List.map_nil]); first | done | rfl | (simp only [List.length_drop, List.length_take]; rfl)) ?_; (with_reducible refine (laws_sgRepeat.calls kj8 (⟨#[41]⟩ : ByteArray) (wrap64 (a1)) t126 _ A18.out).mono ?_); rintro e w' ⟨rfl, ⟨nd, rfl⟩⟩; refine ⟨_, rfl, ?_⟩) | ((with_reducible refine gate_callee (f := 10) rfl ?_); refine goesL_ (some 52) rfl rfl Try.func10 (by kernel_rfl) rfl #[.string (((t124 ++ t125) ++ (strOfNums y121)) ++ t126)] rfl (by (try simp only [List.map_toArray, List.map_cons, List.map_nil]); first | done | rfl | (simp only [List.length_drop, List.length_take]; rfl)) ?_; (with_reducible refine (impl_SgParse.calls kj8 (((t124 ++ t125) ++ (strOfNums y121)) ++ t126) t127 t128 _ A20.out).mono ?_); rintro e w34 ⟨rfl, hb⟩; refine ⟨_, rfl, ?_⟩; have n0_ := Aside0.mk (below_step (by repeat (first | (with_reducible first | exact HB.out | apply below_alloc | apply pw_below_drewN | apply below_drew1) | exact HB.out)) hb); clear HB; have HB := n0_; clear n0_; (try clear hb); (try clear hb2); (try clear hk); (try clear hi)) | ((with_reducible refine gate_callee (f := 12) rfl ?_); refine goesL_ (some 57) rfl rfl Try.func12 (by kernel_rfl) rfl #[.string (⟨#[97]⟩ : ByteArray), .int .i64 (wrap64 (a0))] rfl (by (try simp only [List.map_toArray, List.map_cons, List.map_nil]); first | done | rfl | (simp only [List.length_drop, List.length_take]; rfl)) ?_; (with_reducible refine (laws_sgRepeat.calls kj8 (⟨#[97]⟩ : ByteArray) (wrap64 (a0)) t129 _ A21.out).mono ?_); rintro e w' ⟨rfl, ⟨nd, rfl⟩⟩; refine ⟨_, rfl, ?_⟩) | ((with_reducible refine gate_callee (f := 12) rfl ?_); refine goesL_ (some 59) rfl rfl Try.func12 (by kernel_rfl) rfl #[.string (⟨#[40]⟩ : ByteArray), .int .i64 (wrap64 (a1))] rfl (by (try simp only [List.map_toArray, List.map_cons, List.map_nil]); first | done | rfl | (simp only [List.length_drop, List.length_take]; rfl)) ?_; (with_reducible refine (laws_sgRepeat.calls kj8 (⟨#[40]⟩ : ByteArray) (wrap64 (a1)) t130 _ A22.out).mono ?_); rintro e w' ⟨rfl, ⟨nd, rfl⟩⟩; refine ⟨_, rfl, ?_⟩) | ((with_reducible refine gate_callee (f := 12) rfl ?_); refine goesL_ (some 64) rfl rfl Try.func12 (by kernel_rfl) rfl #[.string (⟨#[41]⟩ : ByteArray), .int .i64 (wrap64 (a1))] rfl (by (try simp only [List.map_toArray, List.map_cons, List.map_nil]); first | done | rfl | (simp only [List.length_drop, List.length_take]; rfl)) ?_; (with_reducible refine (laws_sgRepeat.calls kj8 (⟨#[41]⟩ : ByteArray) (wrap64 (a1)) t131 _ A25.out).mono ?_); rintro e w' ⟨rfl, ⟨nd, rfl⟩⟩; refine ⟨_, rfl, ?_⟩) | ((with_reducible refine gate_callee (f := 10) rfl ?_); refine goesL_ (some 66) rfl rfl Try.func10 (by kernel_rfl) rfl #[.string (((t129 ++ t130) ++ (strOfNums y121)) ++ t131)] rfl (by (try simp only [List.map_toArray, List.map_cons, List.map_nil]); first | done | rfl | (simp only [List.length_drop, List.length_take]; rfl)) ?_; (with_reducible refine (impl_SgParse.calls kj8 (((t129 ++ t130) ++ (strOfNums y121)) ++ t131) t132 t133 _ A27.out).mono ?_); rintro e w35 ⟨rfl, hb⟩; refine ⟨_, rfl, ?_⟩; have n0_ := Aside0.mk (below_step (by repeat (first | (with_reducible first | exact HB.out | apply below_alloc | apply pw_below_drewN | apply below_drew1) | exact HB.out)) hb); clear HB; have HB := n0_; clear n0_; (try clear hb); (try clear hb2); (try clear hk); (try clear hi)) | ((with_reducible refine gate_callee (f := 10) rfl ?_); refine goesL_ (some 71) rfl rfl Try.func10 (by kernel_rfl) rfl #[.string (strOfNums y121)] rfl (by (try simp only [List.map_toArray, List.map_cons, List.map_nil]); first | done | rfl | (simp only [List.length_drop, List.length_take]; rfl)) ?_; (with_reducible refine (impl_SgParse.calls kj8 (strOfNums y121) t134 t135 _ A28.out).mono ?_); rintro e w36 ⟨rfl, hb⟩; refine ⟨_, rfl, ?_⟩; have n0_ := Aside0.mk (below_step (by repeat (first | (with_reducible first | exact HB.out | apply below_alloc | apply pw_below_drewN | apply below_drew1) | exact HB.out)) hb); clear HB; have HB := n0_; clear n0_; (try clear hb); (try clear hb2); (try clear hk); (try clear hi)))
                            go_ret
                            exact ⟨by first | rfl | (simp [errW_none, errW_some] <;> rfl) | (simp [*, errW_none, errW_some] <;> rfl), by repeat (first | (with_reducible first | exact HB.out | apply below_alloc | apply pw_below_drewN | apply below_drew1) | exact HB.out)⟩
                        · rw [if_neg c29] at H
                          have c29b0 : (t128 == x10_8) = false := by simpa using c29
                          (try (have c29b1 : decide (t128 = x10_8) = false := by simpa using c29))
                          (try (have c29b2 : (t128 == x10_8) = false := by simpa using c29))
                          (try (have c29b3 : ¬ (t128 = x10_8) := by simpa using c29))
                          clear c29
                          obtain rfl := Option.some.inj H
                          go_wp2_with (first | ((with_reducible refine gate_callee (f := 12) rfl ?_); refine goesL_ (some 43) rfl rfl Try.func12 (by kernel_rfl) rfl #[.string (⟨#[40]⟩ : ByteArray), .int .i64 (wrap64 (a1))] rfl (by (try simp only [List.map_toArray, List.map_cons, List.map_nil]); first | done | rfl | (simp only [List.length_drop, List.length_take]; rfl)) ?_; (with_reducible refine (laws_sgRepeat.calls kj8 (⟨#[40]⟩ : ByteArray) (wrap64 (a1)) t124 _ A14.out).mono ?_); rintro e w' ⟨rfl, ⟨nd, rfl⟩⟩; refine ⟨_, rfl, ?_⟩) | ((with_reducible refine gate_callee (f := 12) rfl ?_); refine goesL_ (some 45) rfl rfl Try.func12 (by kernel_rfl) rfl #[.string (⟨#[97]⟩ : ByteArray), .int .i64 (wrap64 (a0))] rfl (by (try simp only [List.map_toArray, List.map_cons, List.map_nil]); first | done | rfl | (simp only [List.length_drop, List.length_take]; rfl)) ?_; (with_reducible refine (laws_sgRepeat.calls kj8 (⟨#[97]⟩ : ByteArray) (wrap64 (a0)) t125 _ A15.out).mono ?_); rintro e w' ⟨rfl, ⟨nd, rfl⟩⟩; refine ⟨_, rfl, ?_⟩) | ((with_reducible refine gate_callee (f := 12) rfl ?_); refine goesL_ (some 50) rfl rfl Try.func12 (by kernel_rfl) rfl #[.string (⟨#[41]⟩ : ByteArray), .int .i64 (wrap64 (a1))] rfl (by (try simp only [List.map_toArray, List.map_cons, List.map_nil]); first | done | rfl | (simp only [List.length_drop, List.length_take]; rfl)) ?_; (with_reducible refine (laws_sgRepeat.calls kj8 (⟨#[41]⟩ : ByteArray) (wrap64 (a1)) t126 _ A18.out).mono ?_); rintro e w' ⟨rfl, ⟨nd, rfl⟩⟩; refine ⟨_, rfl, ?_⟩) | ((with_reducible refine gate_callee (f := 10) rfl ?_); refine goesL_ (some 52) rfl rfl Try.func10 (by kernel_rfl) rfl #[.string (((t124 ++ t125) ++ (strOfNums y121)) ++ t126)] rfl (by (try simp only [List.map_toArray, List.map_cons, List.map_nil]); first | done | rfl | (simp only [List.length_drop, List.length_take]; rfl)) ?_; (with_reducible refine (impl_SgParse.calls kj8 (((t124 ++ t125) ++ (strOfNums y121)) ++ t126) t127 t128 _ A20.out).mono ?_); rintro e w37 ⟨rfl, hb⟩; refine ⟨_, rfl, ?_⟩; have n0_ := Aside0.mk (below_step (by repeat (first | (with_reducible first | exact HB.out | apply below_alloc | apply pw_below_drewN | apply below_drew1) | exact HB.out)) hb); clear HB; have HB := n0_; clear n0_; (try clear hb); (try clear hb2); (try clear hk); (try clear hi)) | ((with_reducible refine gate_callee (f := 12) rfl ?_); refine goesL_ (some 57) rfl rfl Try.func12 (by kernel_rfl) rfl #[.string (⟨#[97]⟩ : ByteArray), .int .i64 (wrap64 (a0))] rfl (by (try simp only [List.map_toArray, List.map_cons, List.map_nil]); first | done | rfl | (simp only [List.length_drop, List.length_take]; rfl)) ?_; (with_reducible refine (laws_sgRepeat.calls kj8 (⟨#[97]⟩ : ByteArray) (wrap64 (a0)) t129 _ A21.out).mono ?_); rintro e w' ⟨rfl, ⟨nd, rfl⟩⟩; refine ⟨_, rfl, ?_⟩) | ((with_reducible refine gate_callee (f := 12) rfl ?_); refine goesL_ (some 59) rfl rfl Try.func12 (by kernel_rfl) rfl #[.string (⟨#[40]⟩ : ByteArray), .int .i64 (wrap64 (a1))] rfl (by (try simp only [List.map_toArray, List.map_cons, List.map_nil]); first | done | rfl | (simp only [List.length_drop, List.length_take]; rfl)) ?_; (with_reducible refine (laws_sgRepeat.calls kj8 (⟨#[40]⟩ : ByteArray) (wrap64 (a1)) t130 _ A22.out).mono ?_); rintro e w' ⟨rfl, ⟨nd, rfl⟩⟩; refine ⟨_, rfl, ?_⟩) | ((with_reducible refine gate_callee (f := 12) rfl ?_); refine goesL_ (some 64) rfl rfl Try.func12 (by kernel_rfl) rfl #[.string (⟨#[41]⟩ : ByteArray), .int .i64 (wrap64 (a1))] rfl (by (try simp only [List.map_toArray, List.map_cons, List.map_nil]); first | done | rfl | (simp only [List.length_drop, List.length_take]; rfl)) ?_; (with_reducible refine (laws_sgRepeat.calls kj8 (⟨#[41]⟩ : ByteArray) (wrap64 (a1)) t131 _ A25.out).mono ?_); rintro e w' ⟨rfl, ⟨nd, rfl⟩⟩; refine ⟨_, rfl, ?_⟩) | ((with_reducible refine gate_callee (f := 10) rfl ?_); refine goesL_ (some 66) rfl rfl Try.func10 (by kernel_rfl) rfl #[.string (((t129 ++ t130) ++ (strOfNums y121)) ++ t131)] rfl (by (try simp only [List.map_toArray, List.map_cons, List.map_nil]); first | done | rfl | (simp only [List.length_drop, List.length_take]; rfl)) ?_; (with_reducible refine (impl_SgParse.calls kj8 (((t129 ++ t130) ++ (strOfNums y121)) ++ t131) t132 t133 _ A27.out).mono ?_); rintro e w38 ⟨rfl, hb⟩; refine ⟨_, rfl, ?_⟩; have n0_ := Aside0.mk (below_step (by repeat (first | (with_reducible first | exact HB.out | apply below_alloc | apply pw_below_drewN | apply below_drew1) | exact HB.out)) hb); clear HB; have HB := n0_; clear n0_; (try clear hb); (try clear hb2); (try clear hk); (try clear hi)) | ((with_reducible refine gate_callee (f := 10) rfl ?_); refine goesL_ (some 71) rfl rfl Try.func10 (by kernel_rfl) rfl #[.string (strOfNums y121)] rfl (by (try simp only [List.map_toArray, List.map_cons, List.map_nil]); first | done | rfl | (simp only [List.length_drop, List.length_take]; rfl)) ?_; (with_reducible refine (impl_SgParse.calls kj8 (strOfNums y121) t134 t135 _ A28.out).mono ?_); rintro e w39 ⟨rfl, hb⟩; refine ⟨_, rfl, ?_⟩; have n0_ := Aside0.mk (below_step (by repeat (first | (with_reducible first | exact HB.out | apply below_alloc | apply pw_below_drewN | apply below_drew1) | exact HB.out)) hb); clear HB; have HB := n0_; clear n0_; (try clear hb); (try clear hb2); (try clear hk); (try clear hi)))
                          go_ret
                          exact ⟨by first | rfl | (simp [errW_none, errW_some] <;> rfl) | (simp [*, errW_none, errW_some] <;> rfl), by repeat (first | (with_reducible first | exact HB.out | apply below_alloc | apply pw_below_drewN | apply below_drew1) | exact HB.out)⟩
                      · rw [if_neg c26] at H
                        exact absurd H (by simp)
                    · rw [if_neg c24] at H
                      exact absurd H (by simp)
                  · rw [if_neg c23] at H
                    exact absurd H (by simp)
                · rw [if_neg c19] at H
                  exact absurd H (by simp)
              · rw [if_neg c17] at H
                exact absurd H (by simp)
            · rw [if_neg c16] at H
              exact absurd H (by simp)

/-- THE ONE PURE STATEMENT of laws_FnSgDepth: yours. -/
def laws_FnSgDepth.Pure : Prop := ∀ (a0 : Int) (a1 : Int) (a2 : Int), (Lit.int .u8 a0).wf = true → (Lit.int .u8 a1).wf = true → (Lit.int .u8 a2).wf = true → ∃ k, laws_FnSgDepth.f k a0 a1 a2 = some true
theorem laws_FnSgDepth.walk (P : laws_FnSgDepth.Pure) (a0 : Int) (a1 : Int) (a2 : Int) (w : World) (w0 : (Lit.int .u8 a0).wf = true) (w1 : (Lit.int .u8 a1).wf = true) (w2 : (Lit.int .u8 a2).wf = true) :
    Calls Try.prog 4 #[.int .u8 a0, .int .u8 a1, .int .u8 a2] w fun e w' => e = .returned (.bool true) ∧ Below w.heap.size w w' := by
  obtain ⟨k, h⟩ := P a0 a1 a2 w0 w1 w2
  refine (laws_FnSgDepth.calls k a0 a1 a2 true w h).mono ?_
  rintro e w' ⟨rfl, hd⟩
  exact ⟨rfl, hd⟩

end Go.Proofs.Ythhiijehdpchbaa.Q
