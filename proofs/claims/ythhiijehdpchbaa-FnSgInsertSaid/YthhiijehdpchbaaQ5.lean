-- Written by a program of this session out of the translation; Lean checks it.
import Derived.Test.YthhiijehdpchbaaQ0
import Derived.Test.YthhiijehdpchbaaQ4
namespace Go.Proofs.Ythhiijehdpchbaa.Q
open Go.RowKit Go.Proofs.Ythhiijehdpchbaa.Ext Go.Proofs.YthhiijehdpchbaaW.PrintWords Go.Proofs.YthhiijehdpchbaaW.PrintLast Go.Proofs.YthhiijehdpchbaaW.PrintMore
attribute [local go_sem] max2_int min2_int max_two min_two max_three min_three max_four min_four   -- for this text's walks alone
set_option linter.unusedVariables false
set_option linter.unusedSimpArgs false

/-! ### laws_FnSgStruct: function 7 -/
def laws_FnSgStruct.j0 : Nat → ByteArray → Bool → Option (Bool)
  | 0, _, _ => none
  | k + 1, x0, x21 => if x21 = true then (some true) else (if 1 + x0.size ≤ 9223372036854775807 then (if ((⟨#[40]⟩ : ByteArray) ++ x0).size + 1 ≤ 9223372036854775807 then ((impl_SgParse.f k (((⟨#[40]⟩ : ByteArray) ++ x0) ++ (⟨#[41]⟩ : ByteArray))).bind fun bt154 => ((impl_SgParse.f k (⟨#[40, 121, 41]⟩ : ByteArray)).bind fun bt156 => (if bt156.2 = true then ((spec_Valid.f k (((⟨#[40]⟩ : ByteArray) ++ x0) ++ (⟨#[41]⟩ : ByteArray))).bind fun t158 => (some (bt154.2 == t158))) else (some false)))) else (none)) else (none))
def laws_FnSgStruct.f (k : Nat) (a0 : ByteArray) : Option (Bool) := if (a0.size : Int) > 2147483647 then (some true) else (if (a0.size : Int) > 250 then (laws_FnSgStruct.j0 k a0 true) else (if a0.toList = ([] : List UInt8) then (laws_FnSgStruct.j0 k a0 true) else ((spec_Valid.f k a0).bind fun t153 => (laws_FnSgStruct.j0 k a0 (!t153)))))
theorem laws_FnSgStruct.mono_l : ∀ k, (∀ y0 y1, LeO (laws_FnSgStruct.j0 k y0 y1) (laws_FnSgStruct.j0 (k + 1) y0 y1))
  | 0 => fun _ _ r h => by simp [laws_FnSgStruct.j0] at h
  | k + 1 => by
    have ih0 := laws_FnSgStruct.mono_l k
    · intro y0 y1
      unfold laws_FnSgStruct.j0
      repeat' first
      | (with_reducible exact ih0 _ _)
      | (with_reducible exact impl_SgParse.mono _ _)
      | (with_reducible exact spec_Valid.mono _ _)
      | (with_reducible exact LeO.refl _)
      | (with_reducible exact LeO.none _)
      | (with_reducible refine LeO.ite ?_ ?_)
      | (with_reducible refine LeO.bind ?_ (fun _ => ?_))
      | exact ih0 _ _
      | exact impl_SgParse.mono _ _
      | exact spec_Valid.mono _ _
      | exact LeO.none _
      | refine LeO.ite ?_ ?_
      | refine LeO.bind ?_ (fun _ => ?_)
theorem laws_FnSgStruct.mono : ∀ a0 k, LeO (laws_FnSgStruct.f k a0) (laws_FnSgStruct.f (k + 1) a0) := by
  intro a0 k
  have ih0 := laws_FnSgStruct.mono_l k
  unfold laws_FnSgStruct.f
  repeat' first
      | (with_reducible exact ih0 _ _)
      | (with_reducible exact impl_SgParse.mono _ _)
      | (with_reducible exact spec_Valid.mono _ _)
      | (with_reducible exact LeO.refl _)
      | (with_reducible exact LeO.none _)
      | (with_reducible refine LeO.ite ?_ ?_)
      | (with_reducible refine LeO.bind ?_ (fun _ => ?_))
      | exact ih0 _ _
      | exact impl_SgParse.mono _ _
      | exact spec_Valid.mono _ _
      | exact LeO.none _
      | refine LeO.ite ?_ ?_
      | refine LeO.bind ?_ (fun _ => ?_)
set_option maxHeartbeats 8000000 in
set_option maxRecDepth 100000 in
theorem laws_FnSgStruct.calls (k : Nat) (a0 : ByteArray) (r : Bool) (w : World) (h : laws_FnSgStruct.f k a0 = some r) :
    Calls Try.prog 7 #[.string a0] w fun e w' => e = .returned (.bool r) ∧ Below w.heap.size w w' := by
  have HB := Aside0.mk (Below.refl w.heap.size w)
  have H : (if (a0.size : Int) > 2147483647 then (some true) else (if (a0.size : Int) > 250 then (laws_FnSgStruct.j0 k a0 true) else (if a0.toList = ([] : List UInt8) then (laws_FnSgStruct.j0 k a0 true) else ((spec_Valid.f k a0).bind fun t153 => (laws_FnSgStruct.j0 k a0 (!t153)))))) = some r := h
  clear h
  by_cases c2 : (a0.size : Int) > 2147483647
  · rw [if_pos c2] at H
    have c2b0 : decide (2147483647 < (a0.size : Int)) = true := decide_eq_true c2
    have c2b1 : decide (2147483647 < a0.size) = true := decide_eq_true (by omega)
    clear c2
    obtain rfl := Option.some.inj H
    go_enter Try.func7, Try.ntmps7
    go_wp2
    go_ret
    exact ⟨by first | rfl | (simp [errW_none, errW_some] <;> rfl) | (simp [*, errW_none, errW_some] <;> rfl), by repeat (first | (with_reducible first | exact HB.out | apply below_alloc | apply pw_below_drewN | apply below_drew1) | exact HB.out)⟩
  · rw [if_neg c2] at H
    have c2b0 : decide (2147483647 < (a0.size : Int)) = false := decide_eq_false c2
    have c2b1 : decide (2147483647 < a0.size) = false := decide_eq_false (by omega)
    clear c2
    have HC3 := Aside0.mk H
    clear H
    go_enter Try.func7, Try.ntmps7
    go_upto_region 3 with (fail)
    go_cut [21] (fun v21 wc => ∃ (kq : Nat) (x21_2 : Bool), v21 = .bool x21_2 ∧ Aside0 (laws_FnSgStruct.j0 kq a0 x21_2 = some r) ∧ Aside0 (kq ≤ k) ∧ Aside0 (Below w.heap.size w wc))
    case first =>
      have H := HC3.out
      clear HC3
      by_cases c4 : (a0.size : Int) > 250
      · rw [if_pos c4] at H
        have c4b0 : decide (250 < (a0.size : Int)) = true := decide_eq_true c4
        have c4b1 : decide (250 < a0.size) = true := decide_eq_true (by omega)
        clear c4
        (first | rw [c4b0] | (simp only [i64_w, i32_w]; rw [c4b0]) | skip)
        have H' := Aside0.mk H
        clear H
        go_wp2
        go_meet
        case rel => exact ⟨_, (true), (by first | rfl | (simp; done) | (simp [*]; done)), H', ⟨by first | omega | exact Nat.le_refl _⟩, ⟨by repeat (first | (with_reducible first | exact HB.out | apply below_alloc | apply pw_below_drewN | apply below_drew1) | exact HB.out)⟩⟩
      · rw [if_neg c4] at H
        have c4b0 : decide (250 < (a0.size : Int)) = false := decide_eq_false c4
        have c4b1 : decide (250 < a0.size) = false := decide_eq_false (by omega)
        clear c4
        (first | rw [c4b0] | (simp only [i64_w, i32_w]; rw [c4b0]) | skip)
        by_cases c5 : a0.toList = ([] : List UInt8)
        · rw [if_pos c5] at H
          have c5b0 : (a0.toList == ([] : List UInt8)) = true := beq_iff_eq.mpr c5
          have c5b1 : (a0.toList != ([] : List UInt8)) = false := bne_eq_false_iff_eq.mpr c5
          clear c5
          have H' := Aside0.mk H
          clear H
          go_wp2
          go_meet
          case rel => exact ⟨_, (true), (by first | rfl | (simp; done) | (simp [*]; done)), H', ⟨by first | omega | exact Nat.le_refl _⟩, ⟨by repeat (first | (with_reducible first | exact HB.out | apply below_alloc | apply pw_below_drewN | apply below_drew1) | exact HB.out)⟩⟩
        · rw [if_neg c5] at H
          have c5b0 : (a0.toList == ([] : List UInt8)) = false := beq_eq_false_iff_ne.mpr c5
          have c5b1 : (a0.toList != ([] : List UInt8)) = true := bne_iff_ne.mpr c5
          replace H := Option.bind_eq_some_iff.mp H
          obtain ⟨t153, A60, H⟩ := H
          replace H : (laws_FnSgStruct.j0 k a0 (!t153)) = some r := H
          have A6 := Aside0.mk A60
          clear A60
          have H' := Aside0.mk H
          clear H
          go_wp2_with (first | (go_at_call 14; (with_reducible refine (spec_Valid.calls k a0 t153 _ A6.out).mono ?_); rintro e w7 ⟨rfl, hb⟩; have n0_ := Aside0.mk (below_step (by repeat (first | (with_reducible first | exact HB.out | apply below_alloc | apply pw_below_drewN | apply below_drew1) | exact HB.out)) hb); clear HB; have HB := n0_; clear n0_; (try clear hb); (try clear hb2); (try clear hk); (try clear hi)))
          go_meet
          case rel => exact ⟨_, (!t153), (by first | rfl | (simp; done) | (simp [*]; done)), H', ⟨by first | omega | exact Nat.le_refl _⟩, ⟨by repeat (first | (with_reducible first | exact HB.out | apply below_alloc | apply pw_below_drewN | apply below_drew1) | exact HB.out)⟩⟩
    case rest =>
      clear HC3
      try clear c2
      try clear c2b0
      try clear c2b1
      try clear p2
      try clear c4
      try clear c4b0
      try clear c4b1
      try clear c5
      try clear c5b0
      try clear c5b1
      try clear c7
      obtain ⟨kq, x21_2, rfl, HA, HJ2, HB⟩ := hcut
      cases kq with
      | zero => exact absurd HA.out (by simp [laws_FnSgStruct.j0])
      | succ kj2 =>
        have H := HA.out
        clear HA
        simp only [laws_FnSgStruct.j0] at H
        by_cases c8 : x21_2 = true
        · subst c8
          have H1 : (some true) = some r := by rw [if_pos rfl] at H; exact H
          clear H
          have H := H1
          clear H1
          obtain rfl := Option.some.inj H
          go_wp2
          go_ret
          exact ⟨by first | rfl | (simp [errW_none, errW_some] <;> rfl) | (simp [*, errW_none, errW_some] <;> rfl), by repeat (first | (with_reducible first | exact HB.out | apply below_alloc | apply pw_below_drewN | apply below_drew1) | exact HB.out)⟩
        · replace c8 := Bool.eq_false_iff.mpr c8
          subst c8
          have H1 : (if 1 + a0.size ≤ 9223372036854775807 then (if ((⟨#[40]⟩ : ByteArray) ++ a0).size + 1 ≤ 9223372036854775807 then ((impl_SgParse.f kj2 (((⟨#[40]⟩ : ByteArray) ++ a0) ++ (⟨#[41]⟩ : ByteArray))).bind fun bt154 => ((impl_SgParse.f kj2 (⟨#[40, 121, 41]⟩ : ByteArray)).bind fun bt156 => (if bt156.2 = true then ((spec_Valid.f kj2 (((⟨#[40]⟩ : ByteArray) ++ a0) ++ (⟨#[41]⟩ : ByteArray))).bind fun t158 => (some (bt154.2 == t158))) else (some false)))) else (none)) else (none)) = some r := by rw [if_neg (show ¬ (false = true) by decide)] at H; exact H
          clear H
          have H := H1
          clear H1
          by_cases c9 : 1 + a0.size ≤ 9223372036854775807
          · rw [if_pos c9] at H
            have c9b0 := eq_true c9
            have c9b1 : decide (1 + a0.size ≤ 9223372036854775807) = true := decide_eq_true c9
            try have c9b2 : (9223372036854775807 < 1 + a0.size) = False := eq_false (Nat.not_lt.2 c9)
            try (have c9b3 := c9b2; simp only [ByteArray.size_append] at c9b3)
            try (have c9b4 := c9b3; simp only [show ∀ c : UInt8, (ByteArray.mk #[c]).size = 1 from fun _ => rfl] at c9b4)
            by_cases c10 : ((⟨#[40]⟩ : ByteArray) ++ a0).size + 1 ≤ 9223372036854775807
            · rw [if_pos c10] at H
              have c10b0 := eq_true c10
              have c10b1 : decide (((⟨#[40]⟩ : ByteArray) ++ a0).size + 1 ≤ 9223372036854775807) = true := decide_eq_true c10
              try have c10b2 : (9223372036854775807 < ((⟨#[40]⟩ : ByteArray) ++ a0).size + 1) = False := eq_false (Nat.not_lt.2 c10)
              try (have c10b3 := c10b2; simp only [ByteArray.size_append] at c10b3)
              try (have c10b4 := c10b3; simp only [show ∀ c : UInt8, (ByteArray.mk #[c]).size = 1 from fun _ => rfl] at c10b4)
              replace H := Option.bind_eq_some_iff.mp H
              obtain ⟨⟨t154, t155⟩, A110, H⟩ := H
              replace H : ((impl_SgParse.f kj2 (⟨#[40, 121, 41]⟩ : ByteArray)).bind fun bt156 => (if bt156.2 = true then ((spec_Valid.f kj2 (((⟨#[40]⟩ : ByteArray) ++ a0) ++ (⟨#[41]⟩ : ByteArray))).bind fun t158 => (some (t155 == t158))) else (some false))) = some r := H
              have A11 := Aside0.mk A110
              clear A110
              replace H := Option.bind_eq_some_iff.mp H
              obtain ⟨⟨t156, t157⟩, A120, H⟩ := H
              replace H : (if t157 = true then ((spec_Valid.f kj2 (((⟨#[40]⟩ : ByteArray) ++ a0) ++ (⟨#[41]⟩ : ByteArray))).bind fun t158 => (some (t155 == t158))) else (some false)) = some r := H
              have A12 := Aside0.mk A120
              clear A120
              by_cases c13 : t157 = true
              · subst c13
                have H1 : ((spec_Valid.f kj2 (((⟨#[40]⟩ : ByteArray) ++ a0) ++ (⟨#[41]⟩ : ByteArray))).bind fun t158 => (some (t155 == t158))) = some r := by rw [if_pos rfl] at H; exact H
                clear H
                have H := H1
                clear H1
                replace H := Option.bind_eq_some_iff.mp H
                obtain ⟨t158, A140, H⟩ := H
                replace H : (some (t155 == t158)) = some r := H
                have A14 := Aside0.mk A140
                clear A140
                obtain rfl := Option.some.inj H
                go_wp2_with (first | ((with_reducible refine gate_callee (f := 10) rfl ?_); refine goesL_ (some 26) rfl rfl Try.func10 (by kernel_rfl) rfl #[.string (((⟨#[40]⟩ : ByteArray) ++ a0) ++ (⟨#[41]⟩ : ByteArray))] rfl (by (try simp only [List.map_toArray, List.map_cons, List.map_nil]); first | done | rfl | (simp only [List.length_drop, List.length_take]; rfl)) ?_; (with_reducible refine (impl_SgParse.calls kj2 (((⟨#[40]⟩ : ByteArray) ++ a0) ++ (⟨#[41]⟩ : ByteArray)) t154 t155 _ A11.out).mono ?_); rintro e w15 ⟨rfl, hb⟩; refine ⟨_, rfl, ?_⟩; have n0_ := Aside0.mk (below_step (by repeat (first | (with_reducible first | exact HB.out | apply below_alloc | apply pw_below_drewN | apply below_drew1) | exact HB.out)) hb); clear HB; have HB := n0_; clear n0_; (try clear hb); (try clear hb2); (try clear hk); (try clear hi)) | ((with_reducible refine gate_callee (f := 10) rfl ?_); refine goesL_ (some 30) rfl rfl Try.func10 (by kernel_rfl) rfl #[.string (⟨#[40, 121, 41]⟩ : ByteArray)] rfl (by (try simp only [List.map_toArray, List.map_cons, List.map_nil]); first | done | rfl | (simp only [List.length_drop, List.length_take]; rfl)) ?_; (with_reducible refine (impl_SgParse.calls kj2 (⟨#[40, 121, 41]⟩ : ByteArray) t156 true _ A12.out).mono ?_); rintro e w16 ⟨rfl, hb⟩; refine ⟨_, rfl, ?_⟩; have n0_ := Aside0.mk (below_step (by repeat (first | (with_reducible first | exact HB.out | apply below_alloc | apply pw_below_drewN | apply below_drew1) | exact HB.out)) hb); clear HB; have HB := n0_; clear n0_; (try clear hb); (try clear hb2); (try clear hk); (try clear hi)) | (go_at_call 14; (with_reducible refine (spec_Valid.calls kj2 (((⟨#[40]⟩ : ByteArray) ++ a0) ++ (⟨#[41]⟩ : ByteArray)) t158 _ A14.out).mono ?_); rintro e w17 ⟨rfl, hb⟩; have n0_ := Aside0.mk (below_step (by repeat (first | (with_reducible first | exact HB.out | apply below_alloc | apply pw_below_drewN | apply below_drew1) | exact HB.out)) hb); clear HB; have HB := n0_; clear n0_; (try clear hb); (try clear hb2); (try clear hk); (try clear hi)))
                go_ret
                exact ⟨by first | rfl | (simp [errW_none, errW_some] <;> rfl) | (simp [*, errW_none, errW_some] <;> rfl), by repeat (first | (with_reducible first | exact HB.out | apply below_alloc | apply pw_below_drewN | apply below_drew1) | exact HB.out)⟩
              · replace c13 := Bool.eq_false_iff.mpr c13
                subst c13
                have H1 : (some false) = some r := by rw [if_neg (show ¬ (false = true) by decide)] at H; exact H
                clear H
                have H := H1
                clear H1
                obtain rfl := Option.some.inj H
                go_wp2_with (first | ((with_reducible refine gate_callee (f := 10) rfl ?_); refine goesL_ (some 26) rfl rfl Try.func10 (by kernel_rfl) rfl #[.string (((⟨#[40]⟩ : ByteArray) ++ a0) ++ (⟨#[41]⟩ : ByteArray))] rfl (by (try simp only [List.map_toArray, List.map_cons, List.map_nil]); first | done | rfl | (simp only [List.length_drop, List.length_take]; rfl)) ?_; (with_reducible refine (impl_SgParse.calls kj2 (((⟨#[40]⟩ : ByteArray) ++ a0) ++ (⟨#[41]⟩ : ByteArray)) t154 t155 _ A11.out).mono ?_); rintro e w18 ⟨rfl, hb⟩; refine ⟨_, rfl, ?_⟩; have n0_ := Aside0.mk (below_step (by repeat (first | (with_reducible first | exact HB.out | apply below_alloc | apply pw_below_drewN | apply below_drew1) | exact HB.out)) hb); clear HB; have HB := n0_; clear n0_; (try clear hb); (try clear hb2); (try clear hk); (try clear hi)) | ((with_reducible refine gate_callee (f := 10) rfl ?_); refine goesL_ (some 30) rfl rfl Try.func10 (by kernel_rfl) rfl #[.string (⟨#[40, 121, 41]⟩ : ByteArray)] rfl (by (try simp only [List.map_toArray, List.map_cons, List.map_nil]); first | done | rfl | (simp only [List.length_drop, List.length_take]; rfl)) ?_; (with_reducible refine (impl_SgParse.calls kj2 (⟨#[40, 121, 41]⟩ : ByteArray) t156 false _ A12.out).mono ?_); rintro e w19 ⟨rfl, hb⟩; refine ⟨_, rfl, ?_⟩; have n0_ := Aside0.mk (below_step (by repeat (first | (with_reducible first | exact HB.out | apply below_alloc | apply pw_below_drewN | apply below_drew1) | exact HB.out)) hb); clear HB; have HB := n0_; clear n0_; (try clear hb); (try clear hb2); (try clear hk); (try clear hi)))
                go_ret
                exact ⟨by first | rfl | (simp [errW_none, errW_some] <;> rfl) | (simp [*, errW_none, errW_some] <;> rfl), by repeat (first | (with_reducible first | exact HB.out | apply below_alloc | apply pw_below_drewN | apply below_drew1) | exact HB.out)⟩
            · rw [if_neg c10] at H
              exact absurd H (by simp)
          · rw [if_neg c9] at H
            exact absurd H (by simp)

/-- THE ONE PURE STATEMENT of laws_FnSgStruct: yours. -/
def laws_FnSgStruct.Pure : Prop := ∀ (a0 : ByteArray), a0.size ≤ 140737488351232 → ∃ k, laws_FnSgStruct.f k a0 = some true
theorem laws_FnSgStruct.walk (P : laws_FnSgStruct.Pure) (a0 : ByteArray) (w : World) (w0 : a0.size ≤ 140737488351232) :
    Calls Try.prog 7 #[.string a0] w fun e w' => e = .returned (.bool true) ∧ Below w.heap.size w w' := by
  obtain ⟨k, h⟩ := P a0 w0
  refine (laws_FnSgStruct.calls k a0 true w h).mono ?_
  rintro e w' ⟨rfl, hd⟩
  exact ⟨rfl, hd⟩

/-! ### spec_Joined: function 16 -/
def spec_Joined.l0 : Nat → ByteArray → ByteArray → List ByteArray → Int → Int → Option (ByteArray)
  | 0, _, _, _, _, _ => none
  | k + 1, x1, x5, x8, x9, x10 => if x10 < x9 then (if 0 ≤ x10 then (if x10 < (x8.length : Int) then (if x10 > 0 then (if x5.size + x1.size ≤ 9223372036854775807 then (if (x5 ++ x1).size + (rdOf ByteArray.empty x8 x10).size ≤ 9223372036854775807 then (spec_Joined.l0 k x1 ((x5 ++ x1) ++ (rdOf ByteArray.empty x8 x10)) x8 x9 (wrap64 (x10 + 1))) else (none)) else (none)) else (if x5.size + (rdOf ByteArray.empty x8 x10).size ≤ 9223372036854775807 then (spec_Joined.l0 k x1 (x5 ++ (rdOf ByteArray.empty x8 x10)) x8 x9 (wrap64 (x10 + 1))) else (none))) else (none)) else (none)) else (some x5)
def spec_Joined.f (k : Nat) (l0 : List ByteArray) (a1 : ByteArray) : Option (ByteArray) := spec_Joined.l0 k a1 (⟨#[]⟩ : ByteArray) l0 (l0.length : Int) 0
theorem spec_Joined.mono_l : ∀ k, (∀ y0 y1 y2 y3 y4, LeO (spec_Joined.l0 k y0 y1 y2 y3 y4) (spec_Joined.l0 (k + 1) y0 y1 y2 y3 y4))
  | 0 => fun _ _ _ _ _ r h => by simp [spec_Joined.l0] at h
  | k + 1 => by
    have ih0 := spec_Joined.mono_l k
    · intro y0 y1 y2 y3 y4
      unfold spec_Joined.l0
      repeat' first
      | (with_reducible exact ih0 _ _ _ _ _)
      | (with_reducible exact LeO.refl _)
      | (with_reducible exact LeO.none _)
      | (with_reducible refine LeO.ite ?_ ?_)
      | (with_reducible refine LeO.bind ?_ (fun _ => ?_))
      | exact ih0 _ _ _ _ _
      | exact LeO.none _
      | refine LeO.ite ?_ ?_
      | refine LeO.bind ?_ (fun _ => ?_)
theorem spec_Joined.mono : ∀ a0 a1 k, LeO (spec_Joined.f k a0 a1) (spec_Joined.f (k + 1) a0 a1) := by
  intro a0 a1 k
  have ih0 := spec_Joined.mono_l k
  unfold spec_Joined.f
  repeat' first
      | (with_reducible exact ih0 _ _ _ _ _)
      | (with_reducible exact LeO.refl _)
      | (with_reducible exact LeO.none _)
      | (with_reducible refine LeO.ite ?_ ?_)
      | (with_reducible refine LeO.bind ?_ (fun _ => ?_))
      | exact ih0 _ _ _ _ _
      | exact LeO.none _
      | refine LeO.ite ?_ ?_
      | refine LeO.bind ?_ (fun _ => ?_)
set_option maxHeartbeats 8000000 in
set_option maxRecDepth 100000 in
theorem spec_Joined.calls (k : Nat) (A0 : Option Addr) (c0 : Nat) (l0 : List ByteArray) (a1 : ByteArray) (r : ByteArray) (w : World) (hr0 : Kd.C Kd.string w A0 l0.length l0) (hc0 : l0.length ≤ c0) (h : spec_Joined.f k l0 a1 = some r) :
    Calls Try.prog 16 #[.slice A0 l0.length c0, .string a1] w fun e w' => e = .returned (.string r) ∧ Drawn0 w w' := by
  have HR0 := Aside0.mk hr0
  have HC0 := Aside0.mk hc0
  clear hr0 hc0
  have H : (spec_Joined.l0 k a1 (⟨#[]⟩ : ByteArray) l0 (l0.length : Int) 0) = some r := h
  clear h
  have H' := Aside0.mk H
  clear H
  go_enter Try.func16, Try.ntmps16
  go_wp2
  go_loopg [5, 10] k (fun kq v5 v10 w' => ∃ (x5_1 : ByteArray) (x10_1 : Int), v5 = .string x5_1 ∧ v10 = .int .i64 x10_1 ∧ Aside0 (spec_Joined.l0 kq a1 x5_1 l0 (l0.length : Int) x10_1 = some r) ∧ Aside0 (kq ≤ k) ∧ Drawn0 w w')
  case atStart => exact ⟨((⟨#[]⟩ : ByteArray)), (0), (by first | rfl | (simp; done) | (simp [*]; done)), (by first | rfl | (simp; done) | (simp [*]; done)), H', ⟨Nat.le_refl _⟩, by repeat (first | exact Drawn0.refl _ | apply Drawn0.step)⟩
  case round =>
    clear H'
    try clear c1
    try clear p2
    obtain ⟨x5_1, x10_1, rfl, rfl, HA, HK1, ⟨m1, rfl⟩⟩ := hrel
    cases gk with
    | zero => exact absurd HA.out (by simp [spec_Joined.l0])
    | succ k1 =>
      have H := HA.out
      clear HA
      simp only [spec_Joined.l0] at H
      by_cases c3 : x10_1 < (l0.length : Int)
      · rw [if_pos c3] at H
        have c3b0 : decide (x10_1 < (l0.length : Int)) = true := decide_eq_true c3
        clear c3
        by_cases c4 : 0 ≤ x10_1
        · rw [if_pos c4] at H
          have c4b0 : decide (0 ≤ x10_1) = true := decide_eq_true c4
          clear c4
          by_cases c5 : x10_1 < (l0.length : Int)
          · rw [if_pos c5] at H
            have c5b0 : decide (x10_1 < (l0.length : Int)) = true := decide_eq_true c5
            clear c5
            by_cases c6 : x10_1 > 0
            · rw [if_pos c6] at H
              have c6b0 : decide (0 < x10_1) = true := decide_eq_true c6
              clear c6
              by_cases c7 : x5_1.size + a1.size ≤ 9223372036854775807
              · rw [if_pos c7] at H
                have c7b0 := eq_true c7
                have c7b1 : decide (x5_1.size + a1.size ≤ 9223372036854775807) = true := decide_eq_true c7
                try have c7b2 : (9223372036854775807 < x5_1.size + a1.size) = False := eq_false (Nat.not_lt.2 c7)
                try (have c7b3 := c7b2; simp only [ByteArray.size_append] at c7b3)
                try (have c7b4 := c7b3; simp only [show ∀ c : UInt8, (ByteArray.mk #[c]).size = 1 from fun _ => rfl] at c7b4)
                by_cases c8 : (x5_1 ++ a1).size + (rdOf ByteArray.empty l0 x10_1).size ≤ 9223372036854775807
                · rw [if_pos c8] at H
                  have c8b0 := eq_true c8
                  have c8b1 : decide ((x5_1 ++ a1).size + (rdOf ByteArray.empty l0 x10_1).size ≤ 9223372036854775807) = true := decide_eq_true c8
                  try have c8b2 : (9223372036854775807 < (x5_1 ++ a1).size + (rdOf ByteArray.empty l0 x10_1).size) = False := eq_false (Nat.not_lt.2 c8)
                  try (have c8b3 := c8b2; simp only [ByteArray.size_append] at c8b3)
                  try (have c8b4 := c8b3; simp only [show ∀ c : UInt8, (ByteArray.mk #[c]).size = 1 from fun _ => rfl] at c8b4)
                  have H' := Aside0.mk H
                  clear H
                  have p159 : 0 ≤ (x10_1 : Int) := of_decide_eq_true (by first | (with_reducible assumption) | assumption)
                  have q159 : x10_1 < (l0.length : Int) := of_decide_eq_true (by first | (with_reducible assumption) | assumption)
                  obtain ⟨ad159, e159, hx159_0⟩ := Kd.at_string HR0.out x10_1 p159 q159
                  cases e159
                  replace p159 := eq_true p159
                  replace q159 := eq_true q159
                  go_wp2
                  go_roundg k1
                  case measure => have := HK1.out; omega
                  case rel => exact ⟨((x5_1 ++ a1) ++ (rdOf ByteArray.empty l0 x10_1)), (wrap64 (x10_1 + 1)), (by first | rfl | (simp; done) | (simp [*]; done)), (by first | rfl | (simp; done) | (simp [*]; done)), H', ⟨by have := HK1.out; omega⟩, by repeat (first | exact Drawn0.refl _ | apply Drawn0.step)⟩
                · rw [if_neg c8] at H
                  exact absurd H (by simp)
              · rw [if_neg c7] at H
                exact absurd H (by simp)
            · rw [if_neg c6] at H
              have c6b0 : decide (0 < x10_1) = false := decide_eq_false c6
              clear c6
              by_cases c9 : x5_1.size + (rdOf ByteArray.empty l0 x10_1).size ≤ 9223372036854775807
              · rw [if_pos c9] at H
                have c9b0 := eq_true c9
                have c9b1 : decide (x5_1.size + (rdOf ByteArray.empty l0 x10_1).size ≤ 9223372036854775807) = true := decide_eq_true c9
                try have c9b2 : (9223372036854775807 < x5_1.size + (rdOf ByteArray.empty l0 x10_1).size) = False := eq_false (Nat.not_lt.2 c9)
                try (have c9b3 := c9b2; simp only [ByteArray.size_append] at c9b3)
                try (have c9b4 := c9b3; simp only [show ∀ c : UInt8, (ByteArray.mk #[c]).size = 1 from fun _ => rfl] at c9b4)
                have H' := Aside0.mk H
                clear H
                have p159 : 0 ≤ (x10_1 : Int) := of_decide_eq_true (by first | (with_reducible assumption) | assumption)
                have q159 : x10_1 < (l0.length : Int) := of_decide_eq_true (by first | (with_reducible assumption) | assumption)
                obtain ⟨ad159, e159, hx159_0⟩ := Kd.at_string HR0.out x10_1 p159 q159
                cases e159
                replace p159 := eq_true p159
                replace q159 := eq_true q159
                go_wp2
                go_roundg k1
                case measure => have := HK1.out; omega
                case rel => exact ⟨(x5_1 ++ (rdOf ByteArray.empty l0 x10_1)), (wrap64 (x10_1 + 1)), (by first | rfl | (simp; done) | (simp [*]; done)), (by first | rfl | (simp; done) | (simp [*]; done)), H', ⟨by have := HK1.out; omega⟩, by repeat (first | exact Drawn0.refl _ | apply Drawn0.step)⟩
              · rw [if_neg c9] at H
                exact absurd H (by simp)
          · rw [if_neg c5] at H
            exact absurd H (by simp)
        · rw [if_neg c4] at H
          exact absurd H (by simp)
      · rw [if_neg c3] at H
        have c3b0 : decide (x10_1 < (l0.length : Int)) = false := decide_eq_false c3
        clear c3
        obtain rfl := Option.some.inj H
        go_wp2
        go_ret
        exact ⟨by first | rfl | (simp; done) | (simp [*]; done), by repeat (first | exact Drawn0.refl _ | apply Drawn0.step)⟩

-- BY HAND: function 21 (impl_SgBegin), in Derived.Test.YthhiijehdpchbaaExt6

/-! ### laws_sgWalk: function 17 -/
def laws_sgWalk.l0 : Nat → ByteArray → List ByteArray → Int → Int → Option (Bool)
  | 0, _, _, _, _ => none
  | k + 1, x0, x18, x19, x20 => if x20 < x19 then (if 0 ≤ x20 then (if x20 < (x18.length : Int) then ((impl_SgBegin.f k x0 0 0 0).bind fun bt163 => (if bt163.2 = true then (if (bt163.1.size : Int) ≥ (x0.size : Int) then (some false) else (if 0 ≤ (wrap64 ((x0.size : Int) - (bt163.1.size : Int))) then (if (wrap64 ((x0.size : Int) - (bt163.1.size : Int))) ≤ (x0.size : Int) then (if (x0.extract 0 ((wrap64 ((x0.size : Int) - (bt163.1.size : Int))) : Int).toNat).toList = (rdOf ByteArray.empty x18 x20).toList then (laws_sgWalk.l0 k bt163.1 x18 x19 (wrap64 (x20 + 1))) else (some false)) else (none)) else (none))) else (some false))) else (none)) else (none)) else (some (x0.toList == ([] : List UInt8)))
def laws_sgWalk.f (k : Nat) (a0 : ByteArray) (l1 : List ByteArray) : Option (Bool) := (impl_SgParse.f k a0).bind fun bt160 => (if bt160.2 = true then (laws_sgWalk.l0 k a0 l1 (l1.length : Int) 0) else (some false))
theorem laws_sgWalk.mono_l : ∀ k, (∀ y0 y1 y2 y3, LeO (laws_sgWalk.l0 k y0 y1 y2 y3) (laws_sgWalk.l0 (k + 1) y0 y1 y2 y3))
  | 0 => fun _ _ _ _ r h => by simp [laws_sgWalk.l0] at h
  | k + 1 => by
    have ih0 := laws_sgWalk.mono_l k
    · intro y0 y1 y2 y3
      unfold laws_sgWalk.l0
      repeat' first
      | (with_reducible exact ih0 _ _ _ _)
      | (with_reducible exact impl_SgBegin.mono _ _ _ _ _)
      | (with_reducible exact impl_SgParse.mono _ _)
      | (with_reducible exact LeO.refl _)
      | (with_reducible exact LeO.none _)
      | (with_reducible refine LeO.ite ?_ ?_)
      | (with_reducible refine LeO.bind ?_ (fun _ => ?_))
      | exact ih0 _ _ _ _
      | exact impl_SgBegin.mono _ _ _ _ _
      | exact impl_SgParse.mono _ _
      | exact LeO.none _
      | refine LeO.ite ?_ ?_
      | refine LeO.bind ?_ (fun _ => ?_)
theorem laws_sgWalk.mono : ∀ a0 a1 k, LeO (laws_sgWalk.f k a0 a1) (laws_sgWalk.f (k + 1) a0 a1) := by
  intro a0 a1 k
  have ih0 := laws_sgWalk.mono_l k
  unfold laws_sgWalk.f
  repeat' first
      | (with_reducible exact ih0 _ _ _ _)
      | (with_reducible exact impl_SgBegin.mono _ _ _ _ _)
      | (with_reducible exact impl_SgParse.mono _ _)
      | (with_reducible exact LeO.refl _)
      | (with_reducible exact LeO.none _)
      | (with_reducible refine LeO.ite ?_ ?_)
      | (with_reducible refine LeO.bind ?_ (fun _ => ?_))
      | exact ih0 _ _ _ _
      | exact impl_SgBegin.mono _ _ _ _ _
      | exact impl_SgParse.mono _ _
      | exact LeO.none _
      | refine LeO.ite ?_ ?_
      | refine LeO.bind ?_ (fun _ => ?_)
set_option maxHeartbeats 8000000 in
set_option maxRecDepth 100000 in
theorem laws_sgWalk.calls (k : Nat) (a0 : ByteArray) (A1 : Option Addr) (c1 : Nat) (l1 : List ByteArray) (r : Bool) (w : World) (hr1 : Kd.C Kd.string w A1 l1.length l1) (hc1 : l1.length ≤ c1) (h : laws_sgWalk.f k a0 l1 = some r) :
    Calls Try.prog 17 #[.string a0, .slice A1 l1.length c1] w fun e w' => e = .returned (.bool r) ∧ Below w.heap.size w w' := by
  have HR1 := Aside0.mk hr1
  have HC1 := Aside0.mk hc1
  clear hr1 hc1
  have HB := Aside0.mk (Below.refl w.heap.size w)
  have H : ((impl_SgParse.f k a0).bind fun bt160 => (if bt160.2 = true then (laws_sgWalk.l0 k a0 l1 (l1.length : Int) 0) else (some false))) = some r := h
  clear h
  replace H := Option.bind_eq_some_iff.mp H
  obtain ⟨⟨t160, t161⟩, A30, H⟩ := H
  replace H : (if t161 = true then (laws_sgWalk.l0 k a0 l1 (l1.length : Int) 0) else (some false)) = some r := H
  have A3 := Aside0.mk A30
  clear A30
  by_cases c4 : t161 = true
  · subst c4
    have H1 : (laws_sgWalk.l0 k a0 l1 (l1.length : Int) 0) = some r := by rw [if_pos rfl] at H; exact H
    clear H
    have H := H1
    clear H1
    have H' := Aside0.mk H
    clear H
    go_enter Try.func17, Try.ntmps17
    go_wp2_with (first | ((with_reducible refine gate_callee (f := 10) rfl ?_); refine goesL_ (some 13) rfl rfl Try.func10 (by kernel_rfl) rfl #[.string a0] rfl (by (try simp only [List.map_toArray, List.map_cons, List.map_nil]); first | done | rfl | (simp only [List.length_drop, List.length_take]; rfl)) ?_; (with_reducible refine (impl_SgParse.calls k a0 t160 true _ A3.out).mono ?_); rintro e w5 ⟨rfl, hb⟩; refine ⟨_, rfl, ?_⟩; have n0_ := Aside0.mk (below_step (by repeat (first | (with_reducible first | exact HB.out | apply below_alloc | apply pw_below_drewN | apply below_drew1) | exact HB.out)) hb); clear HB; have HB := n0_; clear n0_; (try clear hb); (try clear hb2); (try clear hk); (try clear hi)))
    go_loopg [0, 20] k (fun kq v0 v20 w' => ∃ (x0_1 : ByteArray) (x20_1 : Int), v0 = .string x0_1 ∧ v20 = .int .i64 x20_1 ∧ Aside0 (laws_sgWalk.l0 kq x0_1 l1 (l1.length : Int) x20_1 = some r) ∧ Aside0 (kq ≤ k) ∧ Aside0 (Below w.heap.size w w'))
    case atStart => exact ⟨(a0), (0), (by first | rfl | (simp; done) | (simp [*]; done)), (by first | rfl | (simp; done) | (simp [*]; done)), H', ⟨Nat.le_refl _⟩, ⟨by repeat (first | (with_reducible first | exact HB.out | apply below_alloc | apply pw_below_drewN | apply below_drew1) | exact HB.out)⟩⟩
    case round =>
      clear H'
      try clear c1
      try clear p2
      try clear c4
      obtain ⟨x0_1, x20_1, rfl, rfl, HA, HK1, HB⟩ := hrel
      cases gk with
      | zero => exact absurd HA.out (by simp [laws_sgWalk.l0])
      | succ k1 =>
        have H := HA.out
        clear HA
        simp only [laws_sgWalk.l0] at H
        by_cases c6 : x20_1 < (l1.length : Int)
        · rw [if_pos c6] at H
          have c6b0 : decide (x20_1 < (l1.length : Int)) = true := decide_eq_true c6
          clear c6
          by_cases c7 : 0 ≤ x20_1
          · rw [if_pos c7] at H
            have c7b0 : decide (0 ≤ x20_1) = true := decide_eq_true c7
            clear c7
            by_cases c8 : x20_1 < (l1.length : Int)
            · rw [if_pos c8] at H
              have c8b0 : decide (x20_1 < (l1.length : Int)) = true := decide_eq_true c8
              clear c8
              replace H := Option.bind_eq_some_iff.mp H
              obtain ⟨⟨t163, t164⟩, A90, H⟩ := H
              replace H : (if t164 = true then (if (t163.size : Int) ≥ (x0_1.size : Int) then (some false) else (if 0 ≤ (wrap64 ((x0_1.size : Int) - (t163.size : Int))) then (if (wrap64 ((x0_1.size : Int) - (t163.size : Int))) ≤ (x0_1.size : Int) then (if (x0_1.extract 0 ((wrap64 ((x0_1.size : Int) - (t163.size : Int))) : Int).toNat).toList = (rdOf ByteArray.empty l1 x20_1).toList then (laws_sgWalk.l0 k1 t163 l1 (l1.length : Int) (wrap64 (x20_1 + 1))) else (some false)) else (none)) else (none))) else (some false)) = some r := H
              have A9 := Aside0.mk A90
              clear A90
              by_cases c10 : t164 = true
              · subst c10
                have H1 : (if (t163.size : Int) ≥ (x0_1.size : Int) then (some false) else (if 0 ≤ (wrap64 ((x0_1.size : Int) - (t163.size : Int))) then (if (wrap64 ((x0_1.size : Int) - (t163.size : Int))) ≤ (x0_1.size : Int) then (if (x0_1.extract 0 ((wrap64 ((x0_1.size : Int) - (t163.size : Int))) : Int).toNat).toList = (rdOf ByteArray.empty l1 x20_1).toList then (laws_sgWalk.l0 k1 t163 l1 (l1.length : Int) (wrap64 (x20_1 + 1))) else (some false)) else (none)) else (none))) = some r := by rw [if_pos rfl] at H; exact H
                clear H
                have H := H1
                clear H1
                by_cases c11 : (t163.size : Int) ≥ (x0_1.size : Int)
                · rw [if_pos c11] at H
                  have c11b0 : decide ((x0_1.size : Int) ≤ (t163.size : Int)) = true := decide_eq_true c11
                  have c11b1 : decide (x0_1.size ≤ t163.size) = true := decide_eq_true (Int.ofNat_le.mp c11)
                  clear c11
                  obtain rfl := Option.some.inj H
                  have p162 : 0 ≤ (x20_1 : Int) := of_decide_eq_true (by first | (with_reducible assumption) | assumption)
                  have q162 : x20_1 < (l1.length : Int) := of_decide_eq_true (by first | (with_reducible assumption) | assumption)
                  obtain ⟨ad162, e162, hx162_0⟩ := Kd.at_string HR1.out x20_1 p162 q162
                  cases e162
                  replace hx162_0 := (HB.out.cell (World.block_lt_of_cell? w _ hx162_0)).trans hx162_0
                  replace p162 := eq_true p162
                  replace q162 := eq_true q162
                  go_wp2_with (first | ((with_reducible refine gate_callee (f := 21) rfl ?_); refine goesL_ (some 26) rfl rfl Try.func21 (by kernel_rfl) rfl #[.string x0_1, .int .i64 0, .int .i64 0, .int .i64 0] rfl (by (try simp only [List.map_toArray, List.map_cons, List.map_nil]); first | done | rfl | (simp only [List.length_drop, List.length_take]; rfl)) ?_; (with_reducible refine (impl_SgBegin.calls k1 x0_1 0 0 0 t163 true _ A9.out).mono ?_); rintro e w12 ⟨rfl, hb⟩; refine ⟨_, rfl, ?_⟩; have n0_ := Aside0.mk (below_step (by repeat (first | (with_reducible first | exact HB.out | apply below_alloc | apply pw_below_drewN | apply below_drew1) | exact HB.out)) hb); clear HB; have HB := n0_; clear n0_; (try clear hb); (try clear hb2); (try clear hk); (try clear hi)))
                  go_ret
                  exact ⟨by first | rfl | (simp [errW_none, errW_some] <;> rfl) | (simp [*, errW_none, errW_some] <;> rfl), by repeat (first | (with_reducible first | exact HB.out | apply below_alloc | apply pw_below_drewN | apply below_drew1) | exact HB.out)⟩
                · rw [if_neg c11] at H
                  have c11b0 : decide ((x0_1.size : Int) ≤ (t163.size : Int)) = false := decide_eq_false c11
                  have c11b1 : decide (x0_1.size ≤ t163.size) = false := decide_eq_false (fun h => c11 (Int.ofNat_le.mpr h))
                  clear c11
                  obtain ⟨ji13, hji13⟩ : ∃ j_ : Int, (wrap64 ((x0_1.size : Int) - (t163.size : Int))) = j_ := ⟨_, rfl⟩
                  replace H : (if 0 ≤ (ji13) then (if (ji13) ≤ (x0_1.size : Int) then (if (x0_1.extract 0 ((ji13) : Int).toNat).toList = (rdOf ByteArray.empty l1 x20_1).toList then (laws_sgWalk.l0 k1 t163 l1 (l1.length : Int) (wrap64 (x20_1 + 1))) else (some false)) else (none)) else (none)) = some r := by first | (rw [hji13] at H; exact H) | (simp only [hji13] at H ⊢; exact H)
                  (try rw [hji13] at A9)
                  have hji13w : (IntKind.i64.wrap ((x0_1.size : Int) - (t163.size : Int))) = ji13 := (i64_w _).trans hji13
                  by_cases c14 : 0 ≤ (ji13)
                  · rw [if_pos c14] at H
                    have c14b0 := eq_true c14
                    have c14b1 : decide (0 ≤ (ji13)) = true := decide_eq_true c14
                    clear c14
                    by_cases c15 : (ji13) ≤ (x0_1.size : Int)
                    · rw [if_pos c15] at H
                      have c15b0 := eq_true c15
                      have c15b1 : decide ((ji13) ≤ (x0_1.size : Int)) = true := decide_eq_true c15
                      clear c15
                      by_cases c16 : (x0_1.extract 0 ((ji13) : Int).toNat).toList = (rdOf ByteArray.empty l1 x20_1).toList
                      · rw [if_pos c16] at H
                        have c16b0 : ((x0_1.extract 0 ((ji13) : Int).toNat).toList == (rdOf ByteArray.empty l1 x20_1).toList) = true := beq_iff_eq.mpr c16
                        have c16b1 : ((x0_1.extract 0 ((ji13) : Int).toNat).toList != (rdOf ByteArray.empty l1 x20_1).toList) = false := bne_eq_false_iff_eq.mpr c16
                        clear c16
                        have H' := Aside0.mk H
                        clear H
                        have p162 : 0 ≤ (x20_1 : Int) := of_decide_eq_true (by first | (with_reducible assumption) | assumption)
                        have q162 : x20_1 < (l1.length : Int) := of_decide_eq_true (by first | (with_reducible assumption) | assumption)
                        obtain ⟨ad162, e162, hx162_0⟩ := Kd.at_string HR1.out x20_1 p162 q162
                        cases e162
                        replace hx162_0 := (HB.out.cell (World.block_lt_of_cell? w _ hx162_0)).trans hx162_0
                        replace p162 := eq_true p162
                        replace q162 := eq_true q162
                        go_wp2_with (first | ((with_reducible refine gate_callee (f := 21) rfl ?_); refine goesL_ (some 26) rfl rfl Try.func21 (by kernel_rfl) rfl #[.string x0_1, .int .i64 0, .int .i64 0, .int .i64 0] rfl (by (try simp only [List.map_toArray, List.map_cons, List.map_nil]); first | done | rfl | (simp only [List.length_drop, List.length_take]; rfl)) ?_; (with_reducible refine (impl_SgBegin.calls k1 x0_1 0 0 0 t163 true _ A9.out).mono ?_); rintro e w17 ⟨rfl, hb⟩; refine ⟨_, rfl, ?_⟩; have n0_ := Aside0.mk (below_step (by repeat (first | (with_reducible first | exact HB.out | apply below_alloc | apply pw_below_drewN | apply below_drew1) | exact HB.out)) hb); clear HB; have HB := n0_; clear n0_; (try clear hb); (try clear hb2); (try clear hk); (try clear hi)))
                        go_roundg k1
                        case measure => have := HK1.out; omega
                        case rel => exact ⟨(t163), (wrap64 (x20_1 + 1)), (by first | rfl | (simp; done) | (simp [*]; done)), (by first | rfl | (simp; done) | (simp [*]; done)), H', ⟨by have := HK1.out; omega⟩, ⟨by repeat (first | (with_reducible first | exact HB.out | apply below_alloc | apply pw_below_drewN | apply below_drew1) | exact HB.out)⟩⟩
                      · rw [if_neg c16] at H
                        have c16b0 : ((x0_1.extract 0 ((ji13) : Int).toNat).toList == (rdOf ByteArray.empty l1 x20_1).toList) = false := beq_eq_false_iff_ne.mpr c16
                        have c16b1 : ((x0_1.extract 0 ((ji13) : Int).toNat).toList != (rdOf ByteArray.empty l1 x20_1).toList) = true := bne_iff_ne.mpr c16
                        obtain rfl := Option.some.inj H
                        have p162 : 0 ≤ (x20_1 : Int) := of_decide_eq_true (by first | (with_reducible assumption) | assumption)
                        have q162 : x20_1 < (l1.length : Int) := of_decide_eq_true (by first | (with_reducible assumption) | assumption)
                        obtain ⟨ad162, e162, hx162_0⟩ := Kd.at_string HR1.out x20_1 p162 q162
                        cases e162
                        replace hx162_0 := (HB.out.cell (World.block_lt_of_cell? w _ hx162_0)).trans hx162_0
                        replace p162 := eq_true p162
                        replace q162 := eq_true q162
                        go_wp2_with (first | ((with_reducible refine gate_callee (f := 21) rfl ?_); refine goesL_ (some 26) rfl rfl Try.func21 (by kernel_rfl) rfl #[.string x0_1, .int .i64 0, .int .i64 0, .int .i64 0] rfl (by (try simp only [List.map_toArray, List.map_cons, List.map_nil]); first | done | rfl | (simp only [List.length_drop, List.length_take]; rfl)) ?_; (with_reducible refine (impl_SgBegin.calls k1 x0_1 0 0 0 t163 true _ A9.out).mono ?_); rintro e w18 ⟨rfl, hb⟩; refine ⟨_, rfl, ?_⟩; have n0_ := Aside0.mk (below_step (by repeat (first | (with_reducible first | exact HB.out | apply below_alloc | apply pw_below_drewN | apply below_drew1) | exact HB.out)) hb); clear HB; have HB := n0_; clear n0_; (try clear hb); (try clear hb2); (try clear hk); (try clear hi)))
                        go_ret
                        exact ⟨by first | rfl | (simp [errW_none, errW_some] <;> rfl) | (simp only [← hji13]; first | rfl | (simp [errW_none, errW_some] <;> rfl)) | (simp [*, errW_none, errW_some] <;> rfl), by repeat (first | (with_reducible first | exact HB.out | apply below_alloc | apply pw_below_drewN | apply below_drew1) | exact HB.out)⟩
                    · rw [if_neg c15] at H
                      exact absurd H (by simp)
                  · rw [if_neg c14] at H
                    exact absurd H (by simp)
              · replace c10 := Bool.eq_false_iff.mpr c10
                subst c10
                have H1 : (some false) = some r := by rw [if_neg (show ¬ (false = true) by decide)] at H; exact H
                clear H
                have H := H1
                clear H1
                obtain rfl := Option.some.inj H
                have p162 : 0 ≤ (x20_1 : Int) := of_decide_eq_true (by first | (with_reducible assumption) | assumption)
                have q162 : x20_1 < (l1.length : Int) := of_decide_eq_true (by first | (with_reducible assumption) | assumption)
                obtain ⟨ad162, e162, hx162_0⟩ := Kd.at_string HR1.out x20_1 p162 q162
                cases e162
                replace hx162_0 := (HB.out.cell (World.block_lt_of_cell? w _ hx162_0)).trans hx162_0
                replace p162 := eq_true p162
                replace q162 := eq_true q162
                go_wp2_with (first | ((with_reducible refine gate_callee (f := 21) rfl ?_); refine goesL_ (some 26) rfl rfl Try.func21 (by kernel_rfl) rfl #[.string x0_1, .int .i64 0, .int .i64 0, .int .i64 0] rfl (by (try simp only [List.map_toArray, List.map_cons, List.map_nil]); first | done | rfl | (simp only [List.length_drop, List.length_take]; rfl)) ?_; (with_reducible refine (impl_SgBegin.calls k1 x0_1 0 0 0 t163 false _ A9.out).mono ?_); rintro e w19 ⟨rfl, hb⟩; refine ⟨_, rfl, ?_⟩; have n0_ := Aside0.mk (below_step (by repeat (first | (with_reducible first | exact HB.out | apply below_alloc | apply pw_below_drewN | apply below_drew1) | exact HB.out)) hb); clear HB; have HB := n0_; clear n0_; (try clear hb); (try clear hb2); (try clear hk); (try clear hi)))
                go_ret
                exact ⟨by first | rfl | (simp [errW_none, errW_some] <;> rfl) | (simp [*, errW_none, errW_some] <;> rfl), by repeat (first | (with_reducible first | exact HB.out | apply below_alloc | apply pw_below_drewN | apply below_drew1) | exact HB.out)⟩
            · rw [if_neg c8] at H
              exact absurd H (by simp)
          · rw [if_neg c7] at H
            exact absurd H (by simp)
        · rw [if_neg c6] at H
          have c6b0 : decide (x20_1 < (l1.length : Int)) = false := decide_eq_false c6
          clear c6
          obtain rfl := Option.some.inj H
          go_wp2
          go_ret
          exact ⟨by first | rfl | (simp [errW_none, errW_some] <;> rfl) | (simp [*, errW_none, errW_some] <;> rfl), by repeat (first | (with_reducible first | exact HB.out | apply below_alloc | apply pw_below_drewN | apply below_drew1) | exact HB.out)⟩
  · replace c4 := Bool.eq_false_iff.mpr c4
    subst c4
    have H1 : (some false) = some r := by rw [if_neg (show ¬ (false = true) by decide)] at H; exact H
    clear H
    have H := H1
    clear H1
    obtain rfl := Option.some.inj H
    go_enter Try.func17, Try.ntmps17
    go_wp2_with (first | ((with_reducible refine gate_callee (f := 10) rfl ?_); refine goesL_ (some 13) rfl rfl Try.func10 (by kernel_rfl) rfl #[.string a0] rfl (by (try simp only [List.map_toArray, List.map_cons, List.map_nil]); first | done | rfl | (simp only [List.length_drop, List.length_take]; rfl)) ?_; (with_reducible refine (impl_SgParse.calls k a0 t160 false _ A3.out).mono ?_); rintro e w20 ⟨rfl, hb⟩; refine ⟨_, rfl, ?_⟩; have n0_ := Aside0.mk (below_step (by repeat (first | (with_reducible first | exact HB.out | apply below_alloc | apply pw_below_drewN | apply below_drew1) | exact HB.out)) hb); clear HB; have HB := n0_; clear n0_; (try clear hb); (try clear hb2); (try clear hk); (try clear hi)))
    go_ret
    exact ⟨by first | rfl | (simp [errW_none, errW_some] <;> rfl) | (simp [*, errW_none, errW_some] <;> rfl), by repeat (first | (with_reducible first | exact HB.out | apply below_alloc | apply pw_below_drewN | apply below_drew1) | exact HB.out)⟩

-- NOT PRINTED: function 8 (laws_FnSgInsert)

end Go.Proofs.Ythhiijehdpchbaa.Q
