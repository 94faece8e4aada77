import Derived.Test.YtheopfecoakhnaaExt1
namespace Go.Proofs.Ytheopfecoakhnaa.Ext
set_option linter.unusedVariables false
set_option linter.unusedSimpArgs false
open Go.RowKit Go.Proofs.YtheopfecoakhnaaW.PrintWords Go.Proofs.YtheopfecoakhnaaW.PrintLast Go.Proofs.YtheopfecoakhnaaW.PrintMore Go.Proofs.Ytheopfecoakhnaa.L Go.Proofs.Ytheopfecoakhnaa.Com
attribute [local go_sem] max2_int min2_int max_two min_two max_three min_three max_four min_four

theorem below_it2 {w wr : World} (h : Below w.heap.size w wr) (m : Nat) (s : ByteArray) (p : Nat) : Below w.heap.size w ((wr.drewN m).iter s p) := by
  show Below _ w ((wr.drewN m).alloc _)
  apply below_alloc
  exact pw_below_drewN h _
theorem R_it {wr : World} {b : Nat} {ok : Nat → Prop} {v : Value} {l : List ByteArray} (h : Kd.R Kd.string 9 wr b ok v l) (m : Nat) (s : ByteArray) (p : Nat) : Kd.R Kd.string 9 ((wr.drewN m).iter s p) b ok v l := by
  show Kd.R _ _ ((wr.drewN m).alloc _) _ _ _ _
  apply Kd.R_alloc
  apply Kd.R_drewN
  exact h

/-! ### dbus_ObjectPath_IsValid: function 15 -/
mutual
def dbus_ObjectPath_IsValid.j0 : Nat → ByteArray → Bool → Option (Bool)
  | 0, _, _ => none
  | k + 1, x3, x26 => if x26 = true then (some false) else (if x3.toList = ([47] : List UInt8) then (some true) else (if 1 ≤ (x3.size : Int) then ((dbus_zzSplit.f k (x3.extract 1 x3.size) (⟨#[47]⟩ : ByteArray)).bind fun t108 => (dbus_ObjectPath_IsValid.l0 k t108 (t108.length : Int) 0)) else (none)))
def dbus_ObjectPath_IsValid.l0 : Nat → List ByteArray → Int → Int → Option (Bool)
  | 0, _, _, _ => none
  | k + 1, x32, x33, x34 => if x34 < x33 then (if 0 ≤ x34 then (if x34 < (x32.length : Int) then (if ((rdOf ByteArray.empty x32 x34).size : Int) = 0 then (some false) else (if ((B (rdOf ByteArray.empty x32 x34)).all mc) = false then (some false) else (dbus_ObjectPath_IsValid.l0 k x32 x33 (wrap64 (x34 + 1))))) else (none)) else (none)) else (some true)
end
def dbus_ObjectPath_IsValid.f (k : Nat) (a0 : ByteArray) : Option (Bool) := if (a0.size : Int) = 0 then (some false) else (if 0 < (a0.size : Int) then (if (bt a0 0) = 47 then (if 0 ≤ (wrap64 ((a0.size : Int) - 1)) then (if (wrap64 ((a0.size : Int) - 1)) < (a0.size : Int) then (if (bt a0 (wrap64 ((a0.size : Int) - 1))) = 47 then (dbus_ObjectPath_IsValid.j0 k a0 ((a0.size : Int) != 1)) else (dbus_ObjectPath_IsValid.j0 k a0 false)) else (none)) else (none)) else (some false)) else (none))
theorem dbus_ObjectPath_IsValid.mono_l : ∀ k, (∀ y0 y1, LeO (dbus_ObjectPath_IsValid.j0 k y0 y1) (dbus_ObjectPath_IsValid.j0 (k + 1) y0 y1)) ∧ (∀ y0 y1 y2, LeO (dbus_ObjectPath_IsValid.l0 k y0 y1 y2) (dbus_ObjectPath_IsValid.l0 (k + 1) y0 y1 y2))
  | 0 => ⟨fun _ _ r h => by simp [dbus_ObjectPath_IsValid.j0] at h, fun _ _ _ r h => by simp [dbus_ObjectPath_IsValid.l0] at h⟩
  | k + 1 => by
    obtain ⟨ih0, ih1⟩ := dbus_ObjectPath_IsValid.mono_l k
    refine ⟨?_, ?_⟩
    · intro y0 y1
      unfold dbus_ObjectPath_IsValid.j0
      repeat' first
      | (with_reducible exact ih0 _ _)
      | (with_reducible exact ih1 _ _ _)
      | (with_reducible exact dbus_zzSplit.mono _ _ _)
      | (with_reducible exact LeO.refl _)
      | (with_reducible exact LeO.none _)
      | (with_reducible refine LeO.ite ?_ ?_)
      | (with_reducible refine LeO.bind ?_ (fun _ => ?_))
      | exact ih0 _ _
      | exact ih1 _ _ _
      | exact dbus_zzSplit.mono _ _ _
      | exact LeO.none _
      | refine LeO.ite ?_ ?_
      | refine LeO.bind ?_ (fun _ => ?_)
    · intro y0 y1 y2
      unfold dbus_ObjectPath_IsValid.l0
      repeat' first
      | (with_reducible exact ih0 _ _)
      | (with_reducible exact ih1 _ _ _)
      | (with_reducible exact dbus_zzSplit.mono _ _ _)
      | (with_reducible exact LeO.refl _)
      | (with_reducible exact LeO.none _)
      | (with_reducible refine LeO.ite ?_ ?_)
      | (with_reducible refine LeO.bind ?_ (fun _ => ?_))
      | exact ih0 _ _
      | exact ih1 _ _ _
      | exact dbus_zzSplit.mono _ _ _
      | exact LeO.none _
      | refine LeO.ite ?_ ?_
      | refine LeO.bind ?_ (fun _ => ?_)
theorem dbus_ObjectPath_IsValid.mono : ∀ a0 k, LeO (dbus_ObjectPath_IsValid.f k a0) (dbus_ObjectPath_IsValid.f (k + 1) a0) := by
  intro a0 k
  obtain ⟨ih0, ih1⟩ := dbus_ObjectPath_IsValid.mono_l k
  unfold dbus_ObjectPath_IsValid.f
  repeat' first
      | (with_reducible exact ih0 _ _)
      | (with_reducible exact ih1 _ _ _)
      | (with_reducible exact dbus_zzSplit.mono _ _ _)
      | (with_reducible exact LeO.refl _)
      | (with_reducible exact LeO.none _)
      | (with_reducible refine LeO.ite ?_ ?_)
      | (with_reducible refine LeO.bind ?_ (fun _ => ?_))
      | exact ih0 _ _
      | exact ih1 _ _ _
      | exact dbus_zzSplit.mono _ _ _
      | exact LeO.none _
      | refine LeO.ite ?_ ?_
      | refine LeO.bind ?_ (fun _ => ?_)
set_option maxHeartbeats 8000000 in
set_option maxRecDepth 100000 in
theorem dbus_ObjectPath_IsValid.calls (k : Nat) (a0 : ByteArray) (r : Bool) (w : World) (h : dbus_ObjectPath_IsValid.f k a0 = some r) :
    Calls Try.prog 15 #[.string a0] w fun e w' => e = .returned (.bool r) ∧ Below w.heap.size w w' := by
  have HB := Aside0.mk (Below.refl w.heap.size w)
  have H : (if (a0.size : Int) = 0 then (some false) else (if 0 < (a0.size : Int) then (if (bt a0 0) = 47 then (if 0 ≤ (wrap64 ((a0.size : Int) - 1)) then (if (wrap64 ((a0.size : Int) - 1)) < (a0.size : Int) then (if (bt a0 (wrap64 ((a0.size : Int) - 1))) = 47 then (dbus_ObjectPath_IsValid.j0 k a0 ((a0.size : Int) != 1)) else (dbus_ObjectPath_IsValid.j0 k a0 false)) else (none)) else (none)) else (some false)) else (none))) = some r := h
  clear h
  by_cases c2 : (a0.size : Int) = 0
  · rw [if_pos c2] at H
    have c2b0 : ((a0.size : Int) == 0) = true := beq_iff_eq.mpr c2
    have c2b1 : ((a0.size : Int) != 0) = false := bne_eq_false_iff_eq.mpr c2
    clear c2
    obtain rfl := Option.some.inj H
    go_enter Try.func15, Try.ntmps15
    go_wp2
    go_ret
    exact ⟨by first | rfl | (simp [errW_none, errW_some] <;> rfl) | (simp [*, errW_none, errW_some] <;> rfl), by repeat (first | (with_reducible first | exact HB.out | apply below_alloc | apply pw_below_drewN | apply below_drew1) | exact HB.out)⟩
  · rw [if_neg c2] at H
    have c2b0 : ((a0.size : Int) == 0) = false := beq_eq_false_iff_ne.mpr c2
    have c2b1 : ((a0.size : Int) != 0) = true := bne_iff_ne.mpr c2
    by_cases c3 : 0 < (a0.size : Int)
    · rw [if_pos c3] at H
      have c3b0 : decide (0 < (a0.size : Int)) = true := decide_eq_true c3
      have c3b1 : decide (0 < a0.size) = true := decide_eq_true (by omega)
      clear c3
      by_cases c5 : (bt a0 0) = 47
      · rw [if_pos c5] at H
        have c5b0 : ((bt a0 0) == 47) = true := beq_iff_eq.mpr c5
        have c5b1 : ((bt a0 0) != 47) = false := bne_eq_false_iff_eq.mpr c5
        clear c5
        have HC6 := Aside0.mk H
        clear H
        have p4 : 0 ≤ (0 : Int) := (by omega)
        have q4 : 0 < a0.size := (by have : (0 : Int) < (a0.size : Int) := of_decide_eq_true (by first | (with_reducible assumption) | assumption); omega)
        have hx4 : ∀ h : 0 < a0.size, ((a0[0]'h).toNat : Int) = bt a0 0 := bt_at a0 0
        clear p4
        have qi4 : (0 < (a0.size : Int)) = True := eq_true (of_decide_eq_true (by first | (with_reducible assumption) | assumption))
        replace q4 := eq_true q4
        go_enter Try.func15, Try.ntmps15
        go_upto_region 6 with (fail)
        go_cut [26] (fun v26 wc => ∃ (kq : Nat) (x26_5 : Bool), v26 = .bool x26_5 ∧ Aside0 (dbus_ObjectPath_IsValid.j0 kq a0 x26_5 = some r) ∧ Aside0 (kq ≤ k) ∧ Aside0 (Below w.heap.size w wc))
        case first =>
          have H := HC6.out
          clear HC6
          obtain ⟨ji7, hji7⟩ : ∃ j_ : Int, (wrap64 ((a0.size : Int) - 1)) = j_ := ⟨_, rfl⟩
          replace H : (if 0 ≤ (ji7) then (if (ji7) < (a0.size : Int) then (if (bt a0 (ji7)) = 47 then (dbus_ObjectPath_IsValid.j0 k a0 ((a0.size : Int) != 1)) else (dbus_ObjectPath_IsValid.j0 k a0 false)) else (none)) else (none)) = some r := by first | (rw [hji7] at H; exact H) | (simp only [hji7] at H ⊢; exact H)
          have hji7w : (IntKind.i64.wrap ((a0.size : Int) - 1)) = ji7 := (i64_w _).trans hji7
          by_cases c8 : 0 ≤ (ji7)
          · rw [if_pos c8] at H
            have c8b0 : decide (0 ≤ (ji7)) = true := decide_eq_true c8
            clear c8
            (first | rw [c8b0] | (simp only [i64_w, i32_w]; rw [c8b0]) | skip)
            by_cases c9 : (ji7) < (a0.size : Int)
            · rw [if_pos c9] at H
              have c9b0 : decide ((ji7) < (a0.size : Int)) = true := decide_eq_true c9
              clear c9
              by_cases c11 : (bt a0 (ji7)) = 47
              · rw [if_pos c11] at H
                have c11b0 : ((bt a0 (ji7)) == 47) = true := beq_iff_eq.mpr c11
                have c11b1 : ((bt a0 (ji7)) != 47) = false := bne_eq_false_iff_eq.mpr c11
                clear c11
                have H' := Aside0.mk H
                clear H
                have p10 : 0 ≤ ((ji7) : Int) := of_decide_eq_true (by first | (with_reducible assumption) | assumption)
                have q10 : (ji7) < (a0.size : Int) := of_decide_eq_true (by first | (with_reducible assumption) | assumption)
                have hx10 := bt_at a0 (ji7)
                replace p10 := eq_true p10
                replace q10 := eq_true q10
                go_wp2
                go_meet
                case rel => exact ⟨_, (((a0.size : Int) != 1)), (by first | rfl | (simp; done) | (simp [*]; done)), H', ⟨by first | omega | exact Nat.le_refl _⟩, ⟨by repeat (first | (with_reducible first | exact HB.out | apply below_alloc | apply pw_below_drewN | apply below_drew1) | exact HB.out)⟩⟩
              · rw [if_neg c11] at H
                have c11b0 : ((bt a0 (ji7)) == 47) = false := beq_eq_false_iff_ne.mpr c11
                have c11b1 : ((bt a0 (ji7)) != 47) = true := bne_iff_ne.mpr c11
                have H' := Aside0.mk H
                clear H
                have p10 : 0 ≤ ((ji7) : Int) := of_decide_eq_true (by first | (with_reducible assumption) | assumption)
                have q10 : (ji7) < (a0.size : Int) := of_decide_eq_true (by first | (with_reducible assumption) | assumption)
                have hx10 := bt_at a0 (ji7)
                replace p10 := eq_true p10
                replace q10 := eq_true q10
                go_wp2
                go_meet
                case rel => exact ⟨_, (false), (by first | rfl | (simp; done) | (simp [*]; done)), H', ⟨by first | omega | exact Nat.le_refl _⟩, ⟨by repeat (first | (with_reducible first | exact HB.out | apply below_alloc | apply pw_below_drewN | apply below_drew1) | exact HB.out)⟩⟩
            · rw [if_neg c9] at H
              exact absurd H (by simp)
          · rw [if_neg c8] at H
            exact absurd H (by simp)
        case rest =>
          clear HC6
          try clear c1
          try clear p1
          try clear q1
          try clear hx1
          try clear c2
          try clear c2b0
          try clear c2b1
          try clear p2
          try clear c3
          try clear c3b0
          try clear c3b1
          try clear p4
          try clear q4
          try clear hx4
          try clear qi4
          try clear c5
          try clear c5b0
          try clear c5b1
          try clear p6
          try clear c8
          try clear c8b0
          try clear c9
          try clear c9b0
          try clear p10
          try clear q10
          try clear hx10
          try clear c11
          try clear c11b0
          try clear c11b1
          try clear p10
          try clear p4
          try clear q10
          try clear q4
          obtain ⟨kq, x26_5, rfl, HA, HJ5, HB⟩ := hcut
          cases kq with
          | zero => exact absurd HA.out (by simp [dbus_ObjectPath_IsValid.j0])
          | succ kj5 =>
            have H := HA.out
            clear HA
            simp only [dbus_ObjectPath_IsValid.j0] at H
            by_cases c12 : x26_5 = true
            · subst c12
              have H1 : (some false) = some r := by rw [if_pos rfl] at H; exact H
              clear H
              have H := H1
              clear H1
              obtain rfl := Option.some.inj H
              go_wp2
              go_ret
              exact ⟨by first | rfl | (simp [errW_none, errW_some] <;> rfl) | (simp [*, errW_none, errW_some] <;> rfl), by repeat (first | (with_reducible first | exact HB.out | apply below_alloc | apply pw_below_drewN | apply below_drew1) | exact HB.out)⟩
            · replace c12 := Bool.eq_false_iff.mpr c12
              subst c12
              have H1 : (if a0.toList = ([47] : List UInt8) then (some true) else (if 1 ≤ (a0.size : Int) then ((dbus_zzSplit.f kj5 (a0.extract 1 a0.size) (⟨#[47]⟩ : ByteArray)).bind fun t108 => (dbus_ObjectPath_IsValid.l0 kj5 t108 (t108.length : Int) 0)) else (none))) = some r := by rw [if_neg (show ¬ (false = true) by decide)] at H; exact H
              clear H
              have H := H1
              clear H1
              by_cases c13 : a0.toList = ([47] : List UInt8)
              · rw [if_pos c13] at H
                have c13b0 : (a0.toList == ([47] : List UInt8)) = true := beq_iff_eq.mpr c13
                have c13b1 : (a0.toList != ([47] : List UInt8)) = false := bne_eq_false_iff_eq.mpr c13
                clear c13
                obtain rfl := Option.some.inj H
                go_wp2
                go_ret
                exact ⟨by first | rfl | (simp [errW_none, errW_some] <;> rfl) | (simp [*, errW_none, errW_some] <;> rfl), by repeat (first | (with_reducible first | exact HB.out | apply below_alloc | apply pw_below_drewN | apply below_drew1) | exact HB.out)⟩
              · rw [if_neg c13] at H
                have c13b0 : (a0.toList == ([47] : List UInt8)) = false := beq_eq_false_iff_ne.mpr c13
                have c13b1 : (a0.toList != ([47] : List UInt8)) = true := bne_iff_ne.mpr c13
                by_cases c14 : 1 ≤ (a0.size : Int)
                · rw [if_pos c14] at H
                  have c14b0 := eq_true c14
                  have c14b1 : decide (1 ≤ (a0.size : Int)) = true := decide_eq_true c14
                  clear c14
                  replace H := Option.bind_eq_some_iff.mp H
                  obtain ⟨t108, A150, H⟩ := H
                  replace H : (dbus_ObjectPath_IsValid.l0 kj5 t108 (t108.length : Int) 0) = some r := H
                  have A15 := Aside0.mk A150
                  clear A150
                  have H' := Aside0.mk H
                  clear H
                  go_wp2_with (first | ((with_reducible refine gate_callee (f := 20) rfl ?_); refine goesL_ (some 31) rfl rfl Try.func20 (by kernel_rfl) rfl #[.string (a0.extract 1 a0.size), .string (⟨#[47]⟩ : ByteArray)] rfl (by (try simp only [List.map_toArray, List.map_cons, List.map_nil]); first | done | rfl | (simp only [List.length_drop, List.length_take]; rfl)) ?_; (with_reducible refine (dbus_zzSplit.calls kj5 (a0.extract 1 a0.size) (⟨#[47]⟩ : ByteArray) t108 _ A15.out).mono ?_); rintro e w16 ⟨v109, rfl, ho0, hb⟩; refine ⟨_, rfl, ?_⟩; have n0_ := Aside0.mk (Kd.R_lower ho0 (below_size (by repeat (first | (with_reducible first | exact HB.out | apply below_alloc | apply pw_below_drewN | apply below_drew1) | exact HB.out)))); have n1_ := Aside0.mk (below_step (by repeat (first | (with_reducible first | exact HB.out | apply below_alloc | apply pw_below_drewN | apply below_drew1) | exact HB.out)) hb); clear HB; have HO110 := n0_; have HB := n1_; clear n0_ n1_; (try clear hb); (try clear hb2); (try clear hk); (try clear hi); (try clear ho0); obtain ⟨Ao17, co17, eo17⟩ := Kd.R_slice HO110.out; subst eo17))
                  go_loopg [34] kj5 (fun kq v34 w' => ∃ (x34_2 : Int), v34 = .int .i64 x34_2 ∧ Aside0 (dbus_ObjectPath_IsValid.l0 kq t108 (t108.length : Int) x34_2 = some r) ∧ Aside0 (kq ≤ kj5) ∧ Aside0 (Kd.R Kd.string 9 w' w.heap.size (fun _ => True) (.slice Ao17 t108.length co17) t108) ∧ Aside0 (Below w.heap.size w w'))
                  case atStart => exact ⟨(0), (by first | rfl | (simp; done) | (simp [*]; done)), H', ⟨Nat.le_refl _⟩, ⟨by (with_reducible repeat (first | apply Kd.R_alloc | apply Kd.R_drewN | apply Kd.R_drew)); exact HO110.out⟩, ⟨by repeat (first | (with_reducible first | exact HB.out | apply below_alloc | apply pw_below_drewN | apply below_drew1) | exact HB.out)⟩⟩
                  case round =>
                    clear H'
                    try clear c1
                    try clear p1
                    try clear q1
                    try clear hx1
                    try clear c2
                    try clear c2b0
                    try clear c2b1
                    try clear p2
                    try clear c3
                    try clear c3b0
                    try clear c3b1
                    try clear p4
                    try clear q4
                    try clear hx4
                    try clear qi4
                    try clear c5
                    try clear c5b0
                    try clear c5b1
                    try clear p6
                    try clear c8
                    try clear c8b0
                    try clear c9
                    try clear c9b0
                    try clear p10
                    try clear q10
                    try clear hx10
                    try clear c11
                    try clear c11b0
                    try clear c11b1
                    try clear c12
                    try clear c13
                    try clear c13b0
                    try clear c13b1
                    try clear c14
                    try clear c14b0
                    try clear c14b1
                    try clear c15
                    try clear p1
                    try clear p10
                    try clear p2
                    try clear p4
                    try clear p6
                    try clear q1
                    try clear q10
                    try clear q4
                    obtain ⟨x34_2, rfl, HA, HK2, HO_32, HB⟩ := hrel
                    cases gk with
                    | zero => exact absurd HA.out (by simp [dbus_ObjectPath_IsValid.l0])
                    | succ k2 =>
                      have H := HA.out
                      clear HA
                      simp only [dbus_ObjectPath_IsValid.l0] at H
                      by_cases c18 : x34_2 < (t108.length : Int)
                      · rw [if_pos c18] at H
                        have c18b0 : decide (x34_2 < (t108.length : Int)) = true := decide_eq_true c18
                        clear c18
                        by_cases c19 : 0 ≤ x34_2
                        · rw [if_pos c19] at H
                          have c19b0 : decide (0 ≤ x34_2) = true := decide_eq_true c19
                          clear c19
                          by_cases c20 : x34_2 < (t108.length : Int)
                          · rw [if_pos c20] at H
                            have c20b0 : decide (x34_2 < (t108.length : Int)) = true := decide_eq_true c20
                            clear c20
                            by_cases c21 : ((rdOf ByteArray.empty t108 x34_2).size : Int) = 0
                            · rw [if_pos c21] at H
                              have c21b0 : (((rdOf ByteArray.empty t108 x34_2).size : Int) == 0) = true := beq_iff_eq.mpr c21
                              have c21b1 : (((rdOf ByteArray.empty t108 x34_2).size : Int) != 0) = false := bne_eq_false_iff_eq.mpr c21
                              clear c21
                              obtain rfl := Option.some.inj H
                              have p111 : 0 ≤ (x34_2 : Int) := of_decide_eq_true (by first | (with_reducible assumption) | assumption)
                              have q111 : x34_2 < (t108.length : Int) := of_decide_eq_true (by first | (with_reducible assumption) | assumption)
                              obtain ⟨ad111, e111, hx111_0⟩ := Kd.at_string (Kd.R_reads' HO_32.out).2.2 x34_2 p111 q111
                              cases e111
                              replace p111 := eq_true p111
                              replace q111 := eq_true q111
                              go_wp2
                              go_ret
                              exact ⟨by first | rfl | (simp [errW_none, errW_some] <;> rfl) | (simp [*, errW_none, errW_some] <;> rfl), by repeat (first | (with_reducible first | exact HB.out | apply below_alloc | apply pw_below_drewN | apply below_drew1) | exact HB.out)⟩
                            · rw [if_neg c21] at H
                              have c21b0 : (((rdOf ByteArray.empty t108 x34_2).size : Int) == 0) = false := beq_eq_false_iff_ne.mpr c21
                              have c21b1 : (((rdOf ByteArray.empty t108 x34_2).size : Int) != 0) = true := bne_iff_ne.mpr c21
                              by_cases c22 : ((B (rdOf ByteArray.empty t108 x34_2)).all mc) = false
                              · rw [if_pos c22] at H
                                obtain rfl := Option.some.inj H
                                have p111 : 0 ≤ (x34_2 : Int) := of_decide_eq_true (by first | (with_reducible assumption) | assumption)
                                have q111 : x34_2 < (t108.length : Int) := of_decide_eq_true (by first | (with_reducible assumption) | assumption)
                                obtain ⟨ad111, e111, hx111_0⟩ := Kd.at_string (Kd.R_reads' HO_32.out).2.2 x34_2 p111 q111
                                cases e111
                                replace p111 := eq_true p111
                                replace q111 := eq_true q111
                                have H0_ : Aside0 (((B (rdOf ByteArray.empty t108 x34_2)).drop 0).all mc = false) := ⟨c22⟩
                                clear c22
                                generalize (rdOf ByteArray.empty t108 x34_2) = vv_ at *
                                go_wp2
                                go_loopw [] (fun w' => ∃ (m pos : Nat), w' = (wr.drewN m).iter vv_ pos ∧ pos ≤ vv_.size ∧ Aside0 (((B vv_).drop pos).all mc = false)) (fun w' => vv_.size - w'.iterPos wr.heap.size)
                                case atStart => exact ⟨0, 0, rfl, Nat.zero_le _, H0_⟩
                                case round =>
                                  obtain ⟨m, pos, rfl, hp, HF⟩ := hrel
                                  by_cases hlt : pos < vv_.size
                                  · have hw1 := width_pos vv_ pos hlt
                                    have hw2 := width_le vv_ pos hlt
                                    have HS := Aside0.mk ((all_step vv_ pos hlt).symm.trans HF.out)
                                    have hnx : ∀ ty, (Instr.next (.pointer (some ⟨wr.heap.size, 0, none⟩)) true ty).run Try.prog ((wr.drewN m).iter vv_ pos) = _ := fun ty => run_next_any (wr.drewN m) vv_ pos ty hlt
                                    clear HF
                                    generalize (Utf8.decode vv_ pos).2 = wd at *
                                    generalize (Utf8.decode vv_ pos).1 = c at *
                                    obtain ⟨bb, hbb⟩ : ∃ bb, mi (c : Int) = bb := ⟨_, rfl⟩
                                    have HC := Aside0.mk (member_is (c : Int))
                                    rw [hbb] at HC HS
                                    clear hbb
                                    cases bb with
                                    | false =>
                                      clear HS
                                      go_wp2_with (first | (go_at_call 21; (with_reducible refine (dbus_isMemberChar.calls (c : Int) _ _ HC.out).mono ?_); rintro e w3 ⟨rfl, ⟨n2, rfl⟩⟩; refine ⟨_, rfl, ?_⟩) | ((with_reducible refine gate_callee (f := 21) rfl ?_); refine goesL_ (some 47) rfl rfl Try.func21 (by kernel_rfl) rfl #[.int .i32 (c : Int)] rfl (by (try simp only [List.map_toArray, List.map_cons, List.map_nil]); first | done | rfl) ?_; (with_reducible refine (dbus_isMemberChar.calls (c : Int) _ _ HC.out).mono ?_); rintro e w3 ⟨rfl, ⟨n2, rfl⟩⟩; refine ⟨_, rfl, ?_⟩))
                                      go_ret
                                      exact ⟨rfl, by repeat (first | exact below_it2 HB.out _ _ _ | apply pw_below_drewN | apply below_drew1)⟩
                                    | true =>
                                      have HR : Aside0 (((B vv_).drop (pos + wd)).all mc = false) := ⟨by have := HS.out; simpa using this⟩
                                      clear HS
                                      go_wp2_with (first | (go_at_call 21; (with_reducible refine (dbus_isMemberChar.calls (c : Int) _ _ HC.out).mono ?_); rintro e w3 ⟨rfl, ⟨n2, rfl⟩⟩; refine ⟨_, rfl, ?_⟩) | ((with_reducible refine gate_callee (f := 21) rfl ?_); refine goesL_ (some 47) rfl rfl Try.func21 (by kernel_rfl) rfl #[.int .i32 (c : Int)] rfl (by (try simp only [List.map_toArray, List.map_cons, List.map_nil]); first | done | rfl) ?_; (with_reducible refine (dbus_isMemberChar.calls (c : Int) _ _ HC.out).mono ?_); rintro e w3 ⟨rfl, ⟨n2, rfl⟩⟩; refine ⟨_, rfl, ?_⟩))
                                      go_roundw
                                      case rel => exact ⟨m + n2, pos + wd, by rw [iter_drewN, World.drewN_drewN], by omega, HR⟩
                                      case measure => simp only [iter_drewN, World.drewN_drewN, iterPos_d]; omega
                                  · have hnx : ∀ ty, (Instr.next (.pointer (some ⟨wr.heap.size, 0, none⟩)) true ty).run Try.prog ((wr.drewN m).iter vv_ pos) = _ := fun ty => run_next_end (wr.drewN m) vv_ pos ty hlt
                                    exact absurd HF.out (by rw [List.drop_eq_nil_of_le (by rw [B_length]; omega)]; simp)
                              · rw [if_neg c22] at H
                                have H' := Aside0.mk H
                                clear H
                                have p111 : 0 ≤ (x34_2 : Int) := of_decide_eq_true (by first | (with_reducible assumption) | assumption)
                                have q111 : x34_2 < (t108.length : Int) := of_decide_eq_true (by first | (with_reducible assumption) | assumption)
                                obtain ⟨ad111, e111, hx111_0⟩ := Kd.at_string (Kd.R_reads' HO_32.out).2.2 x34_2 p111 q111
                                cases e111
                                replace p111 := eq_true p111
                                replace q111 := eq_true q111
                                have H0_ : Aside0 (((B (rdOf ByteArray.empty t108 x34_2)).drop 0).all mc = true) := ⟨by simpa using c22⟩
                                clear c22
                                generalize (rdOf ByteArray.empty t108 x34_2) = vv_ at *
                                go_wp2
                                go_loopw [] (fun w' => ∃ (m pos : Nat), w' = (wr.drewN m).iter vv_ pos ∧ pos ≤ vv_.size ∧ Aside0 (((B vv_).drop pos).all mc = true)) (fun w' => vv_.size - w'.iterPos wr.heap.size)
                                case atStart => exact ⟨0, 0, rfl, Nat.zero_le _, H0_⟩
                                case round =>
                                  obtain ⟨m, pos, rfl, hp, HF⟩ := hrel
                                  by_cases hlt : pos < vv_.size
                                  · have hw1 := width_pos vv_ pos hlt
                                    have hw2 := width_le vv_ pos hlt
                                    have HS := Aside0.mk ((all_step vv_ pos hlt).symm.trans HF.out)
                                    have hnx : ∀ ty, (Instr.next (.pointer (some ⟨wr.heap.size, 0, none⟩)) true ty).run Try.prog ((wr.drewN m).iter vv_ pos) = _ := fun ty => run_next_any (wr.drewN m) vv_ pos ty hlt
                                    clear HF
                                    generalize (Utf8.decode vv_ pos).2 = wd at *
                                    generalize (Utf8.decode vv_ pos).1 = c at *
                                    obtain ⟨bb, hbb⟩ : ∃ bb, mi (c : Int) = bb := ⟨_, rfl⟩
                                    have HC := Aside0.mk (member_is (c : Int))
                                    rw [hbb] at HC HS
                                    clear hbb
                                    cases bb with
                                    | false =>
                                      exact absurd HS.out (by simp)
                                    | true =>
                                      have HR : Aside0 (((B vv_).drop (pos + wd)).all mc = true) := ⟨by have := HS.out; simpa using this⟩
                                      clear HS
                                      go_wp2_with (first | (go_at_call 21; (with_reducible refine (dbus_isMemberChar.calls (c : Int) _ _ HC.out).mono ?_); rintro e w3 ⟨rfl, ⟨n2, rfl⟩⟩; refine ⟨_, rfl, ?_⟩) | ((with_reducible refine gate_callee (f := 21) rfl ?_); refine goesL_ (some 47) rfl rfl Try.func21 (by kernel_rfl) rfl #[.int .i32 (c : Int)] rfl (by (try simp only [List.map_toArray, List.map_cons, List.map_nil]); first | done | rfl) ?_; (with_reducible refine (dbus_isMemberChar.calls (c : Int) _ _ HC.out).mono ?_); rintro e w3 ⟨rfl, ⟨n2, rfl⟩⟩; refine ⟨_, rfl, ?_⟩))
                                      go_roundw
                                      case rel => exact ⟨m + n2, pos + wd, by rw [iter_drewN, World.drewN_drewN], by omega, HR⟩
                                      case measure => simp only [iter_drewN, World.drewN_drewN, iterPos_d]; omega
                                  · have hnx : ∀ ty, (Instr.next (.pointer (some ⟨wr.heap.size, 0, none⟩)) true ty).run Try.prog ((wr.drewN m).iter vv_ pos) = _ := fun ty => run_next_end (wr.drewN m) vv_ pos ty hlt
                                    clear HF
                                    go_wp2
                                    go_roundg k2
                                    case measure => have := HJ5.out; have := HK2.out; omega
                                    case rel => exact ⟨(wrap64 (x34_2 + 1)), (by first | rfl | (simp; done) | (simp [*]; done)), H', ⟨by have := HJ5.out; have := HK2.out; omega⟩, ⟨R_it HO_32.out _ _ _⟩, ⟨by repeat (first | exact below_it2 HB.out _ _ _ | apply pw_below_drewN | apply below_drew1)⟩⟩
                          · rw [if_neg c20] at H
                            exact absurd H (by simp)
                        · rw [if_neg c19] at H
                          exact absurd H (by simp)
                      · rw [if_neg c18] at H
                        have c18b0 : decide (x34_2 < (t108.length : Int)) = false := decide_eq_false c18
                        clear c18
                        obtain rfl := Option.some.inj H
                        go_wp2
                        go_ret
                        exact ⟨by first | rfl | (simp [errW_none, errW_some] <;> rfl) | (simp [*, errW_none, errW_some] <;> rfl), by repeat (first | (with_reducible first | exact HB.out | apply below_alloc | apply pw_below_drewN | apply below_drew1) | exact HB.out)⟩
                · rw [if_neg c14] at H
                  exact absurd H (by simp)
      · rw [if_neg c5] at H
        have c5b0 : ((bt a0 0) == 47) = false := beq_eq_false_iff_ne.mpr c5
        have c5b1 : ((bt a0 0) != 47) = true := bne_iff_ne.mpr c5
        obtain rfl := Option.some.inj H
        have p4 : 0 ≤ (0 : Int) := (by omega)
        have q4 : 0 < a0.size := (by have : (0 : Int) < (a0.size : Int) := of_decide_eq_true (by first | (with_reducible assumption) | assumption); omega)
        have hx4 : ∀ h : 0 < a0.size, ((a0[0]'h).toNat : Int) = bt a0 0 := bt_at a0 0
        clear p4
        have qi4 : (0 < (a0.size : Int)) = True := eq_true (of_decide_eq_true (by first | (with_reducible assumption) | assumption))
        replace q4 := eq_true q4
        go_enter Try.func15, Try.ntmps15
        go_wp2
        go_ret
        exact ⟨by first | rfl | (simp [errW_none, errW_some] <;> rfl) | (simp [*, errW_none, errW_some] <;> rfl), by repeat (first | (with_reducible first | exact HB.out | apply below_alloc | apply pw_below_drewN | apply below_drew1) | exact HB.out)⟩
    · rw [if_neg c3] at H
      exact absurd H (by simp)

/-! ### dbus_isValidInterface: function 23 -/
mutual
def dbus_isValidInterface.j0 : Nat → ByteArray → Bool → Option (Bool)
  | 0, _, _ => none
  | k + 1, x0, x20 => if x20 = true then (some false) else ((dbus_zzSplit.f k x0 (⟨#[46]⟩ : ByteArray)).bind fun t112 => (if (t112.length : Int) < 2 then (some false) else (dbus_isValidInterface.l0 k t112 (t112.length : Int) 0)))
def dbus_isValidInterface.l0 : Nat → List ByteArray → Int → Int → Option (Bool)
  | 0, _, _, _ => none
  | k + 1, x26, x27, x28 => if x28 < x27 then (if 0 ≤ x28 then (if x28 < (x26.length : Int) then (if ((rdOf ByteArray.empty x26 x28).size : Int) = 0 then (some false) else (if 0 < ((rdOf ByteArray.empty x26 x28).size : Int) then (if (bt (rdOf ByteArray.empty x26 x28) 0) ≥ 48 then (dbus_isValidInterface.j2 k (rdOf ByteArray.empty x26 x28) x26 x27 x28 (decide ((bt (rdOf ByteArray.empty x26 x28) 0) ≤ 57))) else (dbus_isValidInterface.j2 k (rdOf ByteArray.empty x26 x28) x26 x27 x28 false)) else (none))) else (none)) else (none)) else (some true)
def dbus_isValidInterface.j2 : Nat → ByteArray → List ByteArray → Int → Int → Bool → Option (Bool)
  | 0, _, _, _, _, _ => none
  | k + 1, x5, x26, x27, x28, x42 => if x42 = true then (some false) else (if ((B x5).all mc) = false then (some false) else (dbus_isValidInterface.l0 k x26 x27 (wrap64 (x28 + 1))))
end
def dbus_isValidInterface.f (k : Nat) (a0 : ByteArray) : Option (Bool) := if (a0.size : Int) = 0 then (dbus_isValidInterface.j0 k a0 true) else (if (a0.size : Int) > 255 then (dbus_isValidInterface.j0 k a0 true) else (if 0 < (a0.size : Int) then (dbus_isValidInterface.j0 k a0 ((bt a0 0) == 46)) else (none)))
theorem dbus_isValidInterface.mono_l : ∀ k, (∀ y0 y1, LeO (dbus_isValidInterface.j0 k y0 y1) (dbus_isValidInterface.j0 (k + 1) y0 y1)) ∧ (∀ y0 y1 y2, LeO (dbus_isValidInterface.l0 k y0 y1 y2) (dbus_isValidInterface.l0 (k + 1) y0 y1 y2)) ∧ (∀ y0 y1 y2 y3 y4, LeO (dbus_isValidInterface.j2 k y0 y1 y2 y3 y4) (dbus_isValidInterface.j2 (k + 1) y0 y1 y2 y3 y4))
  | 0 => ⟨fun _ _ r h => by simp [dbus_isValidInterface.j0] at h, fun _ _ _ r h => by simp [dbus_isValidInterface.l0] at h, fun _ _ _ _ _ r h => by simp [dbus_isValidInterface.j2] at h⟩
  | k + 1 => by
    obtain ⟨ih0, ih1, ih2⟩ := dbus_isValidInterface.mono_l k
    refine ⟨?_, ?_, ?_⟩
    · intro y0 y1
      unfold dbus_isValidInterface.j0
      repeat' first
      | (with_reducible exact ih0 _ _)
      | (with_reducible exact ih1 _ _ _)
      | (with_reducible exact ih2 _ _ _ _ _)
      | (with_reducible exact dbus_zzSplit.mono _ _ _)
      | (with_reducible exact LeO.refl _)
      | (with_reducible exact LeO.none _)
      | (with_reducible refine LeO.ite ?_ ?_)
      | (with_reducible refine LeO.bind ?_ (fun _ => ?_))
      | exact ih0 _ _
      | exact ih1 _ _ _
      | exact ih2 _ _ _ _ _
      | exact dbus_zzSplit.mono _ _ _
      | exact LeO.none _
      | refine LeO.ite ?_ ?_
      | refine LeO.bind ?_ (fun _ => ?_)
    · intro y0 y1 y2
      unfold dbus_isValidInterface.l0
      repeat' first
      | (with_reducible exact ih0 _ _)
      | (with_reducible exact ih1 _ _ _)
      | (with_reducible exact ih2 _ _ _ _ _)
      | (with_reducible exact dbus_zzSplit.mono _ _ _)
      | (with_reducible exact LeO.refl _)
      | (with_reducible exact LeO.none _)
      | (with_reducible refine LeO.ite ?_ ?_)
      | (with_reducible refine LeO.bind ?_ (fun _ => ?_))
      | exact ih0 _ _
      | exact ih1 _ _ _
      | exact ih2 _ _ _ _ _
      | exact dbus_zzSplit.mono _ _ _
      | exact LeO.none _
      | refine LeO.ite ?_ ?_
      | refine LeO.bind ?_ (fun _ => ?_)
    · intro y0 y1 y2 y3 y4
      unfold dbus_isValidInterface.j2
      repeat' first
      | (with_reducible exact ih0 _ _)
      | (with_reducible exact ih1 _ _ _)
      | (with_reducible exact ih2 _ _ _ _ _)
      | (with_reducible exact dbus_zzSplit.mono _ _ _)
      | (with_reducible exact LeO.refl _)
      | (with_reducible exact LeO.none _)
      | (with_reducible refine LeO.ite ?_ ?_)
      | (with_reducible refine LeO.bind ?_ (fun _ => ?_))
      | exact ih0 _ _
      | exact ih1 _ _ _
      | exact ih2 _ _ _ _ _
      | exact dbus_zzSplit.mono _ _ _
      | exact LeO.none _
      | refine LeO.ite ?_ ?_
      | refine LeO.bind ?_ (fun _ => ?_)
theorem dbus_isValidInterface.mono : ∀ a0 k, LeO (dbus_isValidInterface.f k a0) (dbus_isValidInterface.f (k + 1) a0) := by
  intro a0 k
  obtain ⟨ih0, ih1, ih2⟩ := dbus_isValidInterface.mono_l k
  unfold dbus_isValidInterface.f
  repeat' first
      | (with_reducible exact ih0 _ _)
      | (with_reducible exact ih1 _ _ _)
      | (with_reducible exact ih2 _ _ _ _ _)
      | (with_reducible exact dbus_zzSplit.mono _ _ _)
      | (with_reducible exact LeO.refl _)
      | (with_reducible exact LeO.none _)
      | (with_reducible refine LeO.ite ?_ ?_)
      | (with_reducible refine LeO.bind ?_ (fun _ => ?_))
      | exact ih0 _ _
      | exact ih1 _ _ _
      | exact ih2 _ _ _ _ _
      | exact dbus_zzSplit.mono _ _ _
      | exact LeO.none _
      | refine LeO.ite ?_ ?_
      | refine LeO.bind ?_ (fun _ => ?_)
set_option maxHeartbeats 8000000 in
set_option maxRecDepth 100000 in
theorem dbus_isValidInterface.calls (k : Nat) (a0 : ByteArray) (r : Bool) (w : World) (h : dbus_isValidInterface.f k a0 = some r) :
    Calls Try.prog 23 #[.string a0] w fun e w' => e = .returned (.bool r) ∧ Below w.heap.size w w' := by
  have HB := Aside0.mk (Below.refl w.heap.size w)
  have H : (if (a0.size : Int) = 0 then (dbus_isValidInterface.j0 k a0 true) else (if (a0.size : Int) > 255 then (dbus_isValidInterface.j0 k a0 true) else (if 0 < (a0.size : Int) then (dbus_isValidInterface.j0 k a0 ((bt a0 0) == 46)) else (none)))) = some r := h
  clear h
  have HC2 := Aside0.mk H
  clear H
  go_enter Try.func23, Try.ntmps23
  go_upto_region 1 with (fail)
  go_cut [20] (fun v20 wc => ∃ (kq : Nat) (x20_1 : Bool), v20 = .bool x20_1 ∧ Aside0 (dbus_isValidInterface.j0 kq a0 x20_1 = some r) ∧ Aside0 (kq ≤ k) ∧ Aside0 (Below w.heap.size w wc))
  case first =>
    have H := HC2.out
    clear HC2
    by_cases c3 : (a0.size : Int) = 0
    · rw [if_pos c3] at H
      have c3b0 : ((a0.size : Int) == 0) = true := beq_iff_eq.mpr c3
      have c3b1 : ((a0.size : Int) != 0) = false := bne_eq_false_iff_eq.mpr c3
      clear c3
      (first | rw [c3b0] | (simp only [i64_w, i32_w]; rw [c3b0]) | skip)
      have H' := Aside0.mk H
      clear H
      go_wp2
      go_meet
      case rel => exact ⟨_, (true), (by first | rfl | (simp; done) | (simp [*]; done)), H', ⟨by first | omega | exact Nat.le_refl _⟩, ⟨by repeat (first | (with_reducible first | exact HB.out | apply below_alloc | apply pw_below_drewN | apply below_drew1) | exact HB.out)⟩⟩
    · rw [if_neg c3] at H
      have c3b0 : ((a0.size : Int) == 0) = false := beq_eq_false_iff_ne.mpr c3
      have c3b1 : ((a0.size : Int) != 0) = true := bne_iff_ne.mpr c3
      (first | rw [c3b0] | (simp only [i64_w, i32_w]; rw [c3b0]) | skip)
      by_cases c4 : (a0.size : Int) > 255
      · rw [if_pos c4] at H
        have c4b0 : decide (255 < (a0.size : Int)) = true := decide_eq_true c4
        have c4b1 : decide (255 < a0.size) = true := decide_eq_true (by omega)
        clear c4
        have H' := Aside0.mk H
        clear H
        go_wp2
        go_meet
        case rel => exact ⟨_, (true), (by first | rfl | (simp; done) | (simp [*]; done)), H', ⟨by first | omega | exact Nat.le_refl _⟩, ⟨by repeat (first | (with_reducible first | exact HB.out | apply below_alloc | apply pw_below_drewN | apply below_drew1) | exact HB.out)⟩⟩
      · rw [if_neg c4] at H
        have c4b0 : decide (255 < (a0.size : Int)) = false := decide_eq_false c4
        have c4b1 : decide (255 < a0.size) = false := decide_eq_false (by omega)
        clear c4
        by_cases c5 : 0 < (a0.size : Int)
        · rw [if_pos c5] at H
          have c5b0 : decide (0 < (a0.size : Int)) = true := decide_eq_true c5
          have c5b1 : decide (0 < a0.size) = true := decide_eq_true (by omega)
          clear c5
          have H' := Aside0.mk H
          clear H
          have p6 : 0 ≤ (0 : Int) := (by omega)
          have q6 : 0 < a0.size := (by have : (0 : Int) < (a0.size : Int) := of_decide_eq_true (by first | (with_reducible assumption) | assumption); omega)
          have hx6 : ∀ h : 0 < a0.size, ((a0[0]'h).toNat : Int) = bt a0 0 := bt_at a0 0
          clear p6
          have qi6 : (0 < (a0.size : Int)) = True := eq_true (of_decide_eq_true (by first | (with_reducible assumption) | assumption))
          replace q6 := eq_true q6
          go_wp2
          go_meet
          case rel => exact ⟨_, (((bt a0 0) == 46)), (by first | rfl | (simp; done) | (simp [*]; done)), H', ⟨by first | omega | exact Nat.le_refl _⟩, ⟨by repeat (first | (with_reducible first | exact HB.out | apply below_alloc | apply pw_below_drewN | apply below_drew1) | exact HB.out)⟩⟩
        · rw [if_neg c5] at H
          exact absurd H (by simp)
  case rest =>
    clear HC2
    try clear c2
    try clear p2
    try clear c3
    try clear c3b0
    try clear c3b1
    try clear c4
    try clear c4b0
    try clear c4b1
    try clear c5
    try clear c5b0
    try clear c5b1
    try clear p6
    try clear q6
    try clear hx6
    try clear qi6
    try clear p6
    try clear q6
    obtain ⟨kq, x20_1, rfl, HA, HJ1, HB⟩ := hcut
    cases kq with
    | zero => exact absurd HA.out (by simp [dbus_isValidInterface.j0])
    | succ kj1 =>
      have H := HA.out
      clear HA
      simp only [dbus_isValidInterface.j0] at H
      by_cases c7 : x20_1 = true
      · subst c7
        have H1 : (some false) = some r := by rw [if_pos rfl] at H; exact H
        clear H
        have H := H1
        clear H1
        obtain rfl := Option.some.inj H
        go_wp2
        go_ret
        exact ⟨by first | rfl | (simp [errW_none, errW_some] <;> rfl) | (simp [*, errW_none, errW_some] <;> rfl), by repeat (first | (with_reducible first | exact HB.out | apply below_alloc | apply pw_below_drewN | apply below_drew1) | exact HB.out)⟩
      · replace c7 := Bool.eq_false_iff.mpr c7
        subst c7
        have H1 : ((dbus_zzSplit.f kj1 a0 (⟨#[46]⟩ : ByteArray)).bind fun t112 => (if (t112.length : Int) < 2 then (some false) else (dbus_isValidInterface.l0 kj1 t112 (t112.length : Int) 0))) = some r := by rw [if_neg (show ¬ (false = true) by decide)] at H; exact H
        clear H
        have H := H1
        clear H1
        replace H := Option.bind_eq_some_iff.mp H
        obtain ⟨t112, A80, H⟩ := H
        replace H : (if (t112.length : Int) < 2 then (some false) else (dbus_isValidInterface.l0 kj1 t112 (t112.length : Int) 0)) = some r := H
        have A8 := Aside0.mk A80
        clear A80
        by_cases c9 : (t112.length : Int) < 2
        · rw [if_pos c9] at H
          have c9b0 : decide ((t112.length : Int) < 2) = true := decide_eq_true c9
          have c9b1 : decide (t112.length < 2) = true := decide_eq_true (by omega)
          clear c9
          obtain rfl := Option.some.inj H
          go_wp2_with (first | ((with_reducible refine gate_callee (f := 20) rfl ?_); refine goesL_ (some 22) rfl rfl Try.func20 (by kernel_rfl) rfl #[.string a0, .string (⟨#[46]⟩ : ByteArray)] rfl (by (try simp only [List.map_toArray, List.map_cons, List.map_nil]); first | done | rfl | (simp only [List.length_drop, List.length_take]; rfl)) ?_; (with_reducible refine (dbus_zzSplit.calls kj1 a0 (⟨#[46]⟩ : ByteArray) t112 _ A8.out).mono ?_); rintro e w10 ⟨v113, rfl, ho0, hb⟩; refine ⟨_, rfl, ?_⟩; have n0_ := Aside0.mk (Kd.R_lower ho0 (below_size (by repeat (first | (with_reducible first | exact HB.out | apply below_alloc | apply pw_below_drewN | apply below_drew1) | exact HB.out)))); have n1_ := Aside0.mk (below_step (by repeat (first | (with_reducible first | exact HB.out | apply below_alloc | apply pw_below_drewN | apply below_drew1) | exact HB.out)) hb); clear HB; have HO114 := n0_; have HB := n1_; clear n0_ n1_; (try clear hb); (try clear hb2); (try clear hk); (try clear hi); (try clear ho0); obtain ⟨Ao11, co11, eo11⟩ := Kd.R_slice HO114.out; subst eo11))
          go_ret
          exact ⟨by first | rfl | (simp [errW_none, errW_some] <;> rfl) | (simp [*, errW_none, errW_some] <;> rfl), by repeat (first | (with_reducible first | exact HB.out | apply below_alloc | apply pw_below_drewN | apply below_drew1) | exact HB.out)⟩
        · rw [if_neg c9] at H
          have c9b0 : decide ((t112.length : Int) < 2) = false := decide_eq_false c9
          have c9b1 : decide (t112.length < 2) = false := decide_eq_false (by omega)
          clear c9
          have H' := Aside0.mk H
          clear H
          go_wp2_with (first | ((with_reducible refine gate_callee (f := 20) rfl ?_); refine goesL_ (some 22) rfl rfl Try.func20 (by kernel_rfl) rfl #[.string a0, .string (⟨#[46]⟩ : ByteArray)] rfl (by (try simp only [List.map_toArray, List.map_cons, List.map_nil]); first | done | rfl | (simp only [List.length_drop, List.length_take]; rfl)) ?_; (with_reducible refine (dbus_zzSplit.calls kj1 a0 (⟨#[46]⟩ : ByteArray) t112 _ A8.out).mono ?_); rintro e w12 ⟨v113, rfl, ho0, hb⟩; refine ⟨_, rfl, ?_⟩; have n0_ := Aside0.mk (Kd.R_lower ho0 (below_size (by repeat (first | (with_reducible first | exact HB.out | apply below_alloc | apply pw_below_drewN | apply below_drew1) | exact HB.out)))); have n1_ := Aside0.mk (below_step (by repeat (first | (with_reducible first | exact HB.out | apply below_alloc | apply pw_below_drewN | apply below_drew1) | exact HB.out)) hb); clear HB; have HO114 := n0_; have HB := n1_; clear n0_ n1_; (try clear hb); (try clear hb2); (try clear hk); (try clear hi); (try clear ho0); obtain ⟨Ao13, co13, eo13⟩ := Kd.R_slice HO114.out; subst eo13))
          go_loopg [28] kj1 (fun kq v28 w' => ∃ (x28_2 : Int), v28 = .int .i64 x28_2 ∧ Aside0 (dbus_isValidInterface.l0 kq t112 (t112.length : Int) x28_2 = some r) ∧ Aside0 (kq ≤ kj1) ∧ Aside0 (Kd.R Kd.string 9 w' w.heap.size (fun _ => True) (.slice Ao13 t112.length co13) t112) ∧ Aside0 (Below w.heap.size w w'))
          case atStart => exact ⟨(0), (by first | rfl | (simp; done) | (simp [*]; done)), H', ⟨Nat.le_refl _⟩, ⟨by (with_reducible repeat (first | apply Kd.R_alloc | apply Kd.R_drewN | apply Kd.R_drew)); exact HO114.out⟩, ⟨by repeat (first | (with_reducible first | exact HB.out | apply below_alloc | apply pw_below_drewN | apply below_drew1) | exact HB.out)⟩⟩
          case round =>
            clear H'
            try clear c2
            try clear p2
            try clear c3
            try clear c3b0
            try clear c3b1
            try clear c4
            try clear c4b0
            try clear c4b1
            try clear c5
            try clear c5b0
            try clear c5b1
            try clear p6
            try clear q6
            try clear hx6
            try clear qi6
            try clear c7
            try clear c9
            try clear c9b0
            try clear c9b1
            try clear p2
            try clear p6
            try clear q6
            obtain ⟨x28_2, rfl, HA, HK2, HO_26, HB⟩ := hrel
            cases gk with
            | zero => exact absurd HA.out (by simp [dbus_isValidInterface.l0])
            | succ k2 =>
              have H := HA.out
              clear HA
              simp only [dbus_isValidInterface.l0] at H
              by_cases c14 : x28_2 < (t112.length : Int)
              · rw [if_pos c14] at H
                have c14b0 : decide (x28_2 < (t112.length : Int)) = true := decide_eq_true c14
                clear c14
                by_cases c15 : 0 ≤ x28_2
                · rw [if_pos c15] at H
                  have c15b0 : decide (0 ≤ x28_2) = true := decide_eq_true c15
                  clear c15
                  by_cases c16 : x28_2 < (t112.length : Int)
                  · rw [if_pos c16] at H
                    have c16b0 : decide (x28_2 < (t112.length : Int)) = true := decide_eq_true c16
                    clear c16
                    by_cases c17 : ((rdOf ByteArray.empty t112 x28_2).size : Int) = 0
                    · rw [if_pos c17] at H
                      have c17b0 : (((rdOf ByteArray.empty t112 x28_2).size : Int) == 0) = true := beq_iff_eq.mpr c17
                      have c17b1 : (((rdOf ByteArray.empty t112 x28_2).size : Int) != 0) = false := bne_eq_false_iff_eq.mpr c17
                      clear c17
                      obtain rfl := Option.some.inj H
                      have p115 : 0 ≤ (x28_2 : Int) := of_decide_eq_true (by first | (with_reducible assumption) | assumption)
                      have q115 : x28_2 < (t112.length : Int) := of_decide_eq_true (by first | (with_reducible assumption) | assumption)
                      obtain ⟨ad115, e115, hx115_0⟩ := Kd.at_string (Kd.R_reads' HO_26.out).2.2 x28_2 p115 q115
                      cases e115
                      replace p115 := eq_true p115
                      replace q115 := eq_true q115
                      go_wp2
                      go_ret
                      exact ⟨by first | rfl | (simp [errW_none, errW_some] <;> rfl) | (simp [*, errW_none, errW_some] <;> rfl), by repeat (first | (with_reducible first | exact HB.out | apply below_alloc | apply pw_below_drewN | apply below_drew1) | exact HB.out)⟩
                    · rw [if_neg c17] at H
                      have c17b0 : (((rdOf ByteArray.empty t112 x28_2).size : Int) == 0) = false := beq_eq_false_iff_ne.mpr c17
                      have c17b1 : (((rdOf ByteArray.empty t112 x28_2).size : Int) != 0) = true := bne_iff_ne.mpr c17
                      have HC18 := Aside0.mk H
                      clear H
                      have p115 : 0 ≤ (x28_2 : Int) := of_decide_eq_true (by first | (with_reducible assumption) | assumption)
                      have q115 : x28_2 < (t112.length : Int) := of_decide_eq_true (by first | (with_reducible assumption) | assumption)
                      obtain ⟨ad115, e115, hx115_0⟩ := Kd.at_string (Kd.R_reads' HO_26.out).2.2 x28_2 p115 q115
                      cases e115
                      replace p115 := eq_true p115
                      replace q115 := eq_true q115
                      go_upto_region 11 with (fail)
                      go_cut [42] (fun v42 wc => ∃ (kq : Nat) (x42_17 : Bool), v42 = .bool x42_17 ∧ Aside0 (dbus_isValidInterface.j2 kq (rdOf ByteArray.empty t112 x28_2) t112 (t112.length : Int) x28_2 x42_17 = some r) ∧ Aside0 (kq ≤ k2) ∧ Aside0 (Kd.R Kd.string 9 wc w.heap.size (fun _ => True) (.slice (some ad115) t112.length co13) t112) ∧ Aside0 (Below w.heap.size w wc))
                      case first =>
                        have H := HC18.out
                        clear HC18
                        by_cases c19 : 0 < ((rdOf ByteArray.empty t112 x28_2).size : Int)
                        · rw [if_pos c19] at H
                          have c19b0 : decide (0 < ((rdOf ByteArray.empty t112 x28_2).size : Int)) = true := decide_eq_true c19
                          have c19b1 : decide (0 < (rdOf ByteArray.empty t112 x28_2).size) = true := decide_eq_true (by omega)
                          clear c19
                          (first | rw [c19b0] | (simp only [i64_w, i32_w]; rw [c19b0]) | skip)
                          by_cases c21 : (bt (rdOf ByteArray.empty t112 x28_2) 0) ≥ 48
                          · rw [if_pos c21] at H
                            have c21b0 : decide (48 ≤ (bt (rdOf ByteArray.empty t112 x28_2) 0)) = true := decide_eq_true c21
                            clear c21
                            have H' := Aside0.mk H
                            clear H
                            have p20 : 0 ≤ (0 : Int) := (by omega)
                            have q20 : 0 < (rdOf ByteArray.empty t112 x28_2).size := (by have : (0 : Int) < ((rdOf ByteArray.empty t112 x28_2).size : Int) := of_decide_eq_true (by first | (with_reducible assumption) | assumption); omega)
                            have hx20 : ∀ h : 0 < (rdOf ByteArray.empty t112 x28_2).size, (((rdOf ByteArray.empty t112 x28_2)[0]'h).toNat : Int) = bt (rdOf ByteArray.empty t112 x28_2) 0 := bt_at (rdOf ByteArray.empty t112 x28_2) 0
                            clear p20
                            have qi20 : (0 < ((rdOf ByteArray.empty t112 x28_2).size : Int)) = True := eq_true (of_decide_eq_true (by first | (with_reducible assumption) | assumption))
                            replace q20 := eq_true q20
                            have p22 : 0 ≤ (0 : Int) := (by omega)
                            have q22 : 0 < (rdOf ByteArray.empty t112 x28_2).size := (by have : (0 : Int) < ((rdOf ByteArray.empty t112 x28_2).size : Int) := of_decide_eq_true (by first | (with_reducible assumption) | assumption); omega)
                            have hx22 : ∀ h : 0 < (rdOf ByteArray.empty t112 x28_2).size, (((rdOf ByteArray.empty t112 x28_2)[0]'h).toNat : Int) = bt (rdOf ByteArray.empty t112 x28_2) 0 := bt_at (rdOf ByteArray.empty t112 x28_2) 0
                            clear p22
                            have qi22 : (0 < ((rdOf ByteArray.empty t112 x28_2).size : Int)) = True := eq_true (of_decide_eq_true (by first | (with_reducible assumption) | assumption))
                            replace q22 := eq_true q22
                            go_wp2
                            go_meet
                            case rel => exact ⟨_, (decide ((bt (rdOf ByteArray.empty t112 x28_2) 0) ≤ 57)), (by first | rfl | (simp; done) | (simp [*]; done)), H', ⟨by have := HJ1.out; have := HK2.out; first | omega | exact Nat.le_refl _⟩, ⟨by (with_reducible repeat (first | apply Kd.R_alloc | apply Kd.R_drewN | apply Kd.R_drew)); exact HO_26.out⟩, ⟨by repeat (first | (with_reducible first | exact HB.out | apply below_alloc | apply pw_below_drewN | apply below_drew1) | exact HB.out)⟩⟩
                          · rw [if_neg c21] at H
                            have c21b0 : decide (48 ≤ (bt (rdOf ByteArray.empty t112 x28_2) 0)) = false := decide_eq_false c21
                            clear c21
                            have H' := Aside0.mk H
                            clear H
                            have p20 : 0 ≤ (0 : Int) := (by omega)
                            have q20 : 0 < (rdOf ByteArray.empty t112 x28_2).size := (by have : (0 : Int) < ((rdOf ByteArray.empty t112 x28_2).size : Int) := of_decide_eq_true (by first | (with_reducible assumption) | assumption); omega)
                            have hx20 : ∀ h : 0 < (rdOf ByteArray.empty t112 x28_2).size, (((rdOf ByteArray.empty t112 x28_2)[0]'h).toNat : Int) = bt (rdOf ByteArray.empty t112 x28_2) 0 := bt_at (rdOf ByteArray.empty t112 x28_2) 0
                            clear p20
                            have qi20 : (0 < ((rdOf ByteArray.empty t112 x28_2).size : Int)) = True := eq_true (of_decide_eq_true (by first | (with_reducible assumption) | assumption))
                            replace q20 := eq_true q20
                            go_wp2
                            go_meet
                            case rel => exact ⟨_, (false), (by first | rfl | (simp; done) | (simp [*]; done)), H', ⟨by have := HJ1.out; have := HK2.out; first | omega | exact Nat.le_refl _⟩, ⟨by (with_reducible repeat (first | apply Kd.R_alloc | apply Kd.R_drewN | apply Kd.R_drew)); exact HO_26.out⟩, ⟨by repeat (first | (with_reducible first | exact HB.out | apply below_alloc | apply pw_below_drewN | apply below_drew1) | exact HB.out)⟩⟩
                        · rw [if_neg c19] at H
                          exact absurd H (by simp)
                      case rest =>
                        clear HC18
                        try clear c1
                        try clear p1
                        try clear q1
                        try clear hx1
                        try clear c2
                        try clear p2
                        try clear q2
                        try clear hx2
                        try clear qi2
                        try clear c3
                        try clear c3b0
                        try clear c3b1
                        try clear c4
                        try clear c4b0
                        try clear c4b1
                        try clear c5
                        try clear c5b0
                        try clear c5b1
                        try clear p6
                        try clear q6
                        try clear hx6
                        try clear qi6
                        try clear c7
                        try clear c9
                        try clear c9b0
                        try clear c9b1
                        try clear p11
                        try clear q11
                        try clear hx11
                        try clear c14
                        try clear c14b0
                        try clear c15
                        try clear c15b0
                        try clear c16
                        try clear c16b0
                        try clear c17
                        try clear c17b0
                        try clear c17b1
                        try clear c19
                        try clear c19b0
                        try clear c19b1
                        try clear c20
                        try clear p20
                        try clear q20
                        try clear hx20
                        try clear qi20
                        try clear c21
                        try clear c21b0
                        try clear p22
                        try clear q22
                        try clear hx22
                        try clear qi22
                        try clear hx115_0
                        try clear p115
                        try clear p2
                        try clear p20
                        try clear p22
                        try clear p6
                        try clear q115
                        try clear q20
                        try clear q22
                        try clear q6
                        obtain ⟨kq, x42_17, rfl, HA, HJ17, HO_26, HB⟩ := hcut
                        cases kq with
                        | zero => exact absurd HA.out (by simp [dbus_isValidInterface.j2])
                        | succ kj17 =>
                          have H := HA.out
                          clear HA
                          simp only [dbus_isValidInterface.j2] at H
                          by_cases c23 : x42_17 = true
                          · subst c23
                            have H1 : (some false) = some r := by rw [if_pos rfl] at H; exact H
                            clear H
                            have H := H1
                            clear H1
                            obtain rfl := Option.some.inj H
                            go_wp2
                            go_ret
                            exact ⟨by first | rfl | (simp [errW_none, errW_some] <;> rfl) | (simp [*, errW_none, errW_some] <;> rfl), by repeat (first | (with_reducible first | exact HB.out | apply below_alloc | apply pw_below_drewN | apply below_drew1) | exact HB.out)⟩
                          · replace c23 := Bool.eq_false_iff.mpr c23
                            subst c23
                            have H1 : (if ((B (rdOf ByteArray.empty t112 x28_2)).all mc) = false then (some false) else (dbus_isValidInterface.l0 kj17 t112 (t112.length : Int) (wrap64 (x28_2 + 1)))) = some r := by rw [if_neg (show ¬ (false = true) by decide)] at H; exact H
                            clear H
                            have H := H1
                            clear H1
                            by_cases c24 : ((B (rdOf ByteArray.empty t112 x28_2)).all mc) = false
                            · rw [if_pos c24] at H
                              obtain rfl := Option.some.inj H
                              have H0_ : Aside0 (((B (rdOf ByteArray.empty t112 x28_2)).drop 0).all mc = false) := ⟨c24⟩
                              clear c24
                              generalize (rdOf ByteArray.empty t112 x28_2) = vv_ at *
                              go_wp2
                              go_loopw [] (fun w' => ∃ (m pos : Nat), w' = (wc.drewN m).iter vv_ pos ∧ pos ≤ vv_.size ∧ Aside0 (((B vv_).drop pos).all mc = false)) (fun w' => vv_.size - w'.iterPos wc.heap.size)
                              case atStart => exact ⟨0, 0, rfl, Nat.zero_le _, H0_⟩
                              case round =>
                                obtain ⟨m, pos, rfl, hp, HF⟩ := hrel
                                by_cases hlt : pos < vv_.size
                                · have hw1 := width_pos vv_ pos hlt
                                  have hw2 := width_le vv_ pos hlt
                                  have HS := Aside0.mk ((all_step vv_ pos hlt).symm.trans HF.out)
                                  have hnx : ∀ ty, (Instr.next (.pointer (some ⟨wc.heap.size, 0, none⟩)) true ty).run Try.prog ((wc.drewN m).iter vv_ pos) = _ := fun ty => run_next_any (wc.drewN m) vv_ pos ty hlt
                                  clear HF
                                  generalize (Utf8.decode vv_ pos).2 = wd at *
                                  generalize (Utf8.decode vv_ pos).1 = c at *
                                  obtain ⟨bb, hbb⟩ : ∃ bb, mi (c : Int) = bb := ⟨_, rfl⟩
                                  have HC := Aside0.mk (member_is (c : Int))
                                  rw [hbb] at HC HS
                                  clear hbb
                                  cases bb with
                                  | false =>
                                    clear HS
                                    go_wp2_with (first | (go_at_call 21; (with_reducible refine (dbus_isMemberChar.calls (c : Int) _ _ HC.out).mono ?_); rintro e w3 ⟨rfl, ⟨n2, rfl⟩⟩; refine ⟨_, rfl, ?_⟩) | ((with_reducible refine gate_callee (f := 21) rfl ?_); refine goesL_ (some 49) rfl rfl Try.func21 (by kernel_rfl) rfl #[.int .i32 (c : Int)] rfl (by (try simp only [List.map_toArray, List.map_cons, List.map_nil]); first | done | rfl) ?_; (with_reducible refine (dbus_isMemberChar.calls (c : Int) _ _ HC.out).mono ?_); rintro e w3 ⟨rfl, ⟨n2, rfl⟩⟩; refine ⟨_, rfl, ?_⟩))
                                    go_ret
                                    exact ⟨rfl, by repeat (first | exact below_it2 HB.out _ _ _ | apply pw_below_drewN | apply below_drew1)⟩
                                  | true =>
                                    have HR : Aside0 (((B vv_).drop (pos + wd)).all mc = false) := ⟨by have := HS.out; simpa using this⟩
                                    clear HS
                                    go_wp2_with (first | (go_at_call 21; (with_reducible refine (dbus_isMemberChar.calls (c : Int) _ _ HC.out).mono ?_); rintro e w3 ⟨rfl, ⟨n2, rfl⟩⟩; refine ⟨_, rfl, ?_⟩) | ((with_reducible refine gate_callee (f := 21) rfl ?_); refine goesL_ (some 49) rfl rfl Try.func21 (by kernel_rfl) rfl #[.int .i32 (c : Int)] rfl (by (try simp only [List.map_toArray, List.map_cons, List.map_nil]); first | done | rfl) ?_; (with_reducible refine (dbus_isMemberChar.calls (c : Int) _ _ HC.out).mono ?_); rintro e w3 ⟨rfl, ⟨n2, rfl⟩⟩; refine ⟨_, rfl, ?_⟩))
                                    go_roundw
                                    case rel => exact ⟨m + n2, pos + wd, by rw [iter_drewN, World.drewN_drewN], by omega, HR⟩
                                    case measure => simp only [iter_drewN, World.drewN_drewN, iterPos_d]; omega
                                · have hnx : ∀ ty, (Instr.next (.pointer (some ⟨wc.heap.size, 0, none⟩)) true ty).run Try.prog ((wc.drewN m).iter vv_ pos) = _ := fun ty => run_next_end (wc.drewN m) vv_ pos ty hlt
                                  exact absurd HF.out (by rw [List.drop_eq_nil_of_le (by rw [B_length]; omega)]; simp)
                            · rw [if_neg c24] at H
                              have H' := Aside0.mk H
                              clear H
                              have H0_ : Aside0 (((B (rdOf ByteArray.empty t112 x28_2)).drop 0).all mc = true) := ⟨by simpa using c24⟩
                              clear c24
                              generalize (rdOf ByteArray.empty t112 x28_2) = vv_ at *
                              go_wp2
                              go_loopw [] (fun w' => ∃ (m pos : Nat), w' = (wc.drewN m).iter vv_ pos ∧ pos ≤ vv_.size ∧ Aside0 (((B vv_).drop pos).all mc = true)) (fun w' => vv_.size - w'.iterPos wc.heap.size)
                              case atStart => exact ⟨0, 0, rfl, Nat.zero_le _, H0_⟩
                              case round =>
                                obtain ⟨m, pos, rfl, hp, HF⟩ := hrel
                                by_cases hlt : pos < vv_.size
                                · have hw1 := width_pos vv_ pos hlt
                                  have hw2 := width_le vv_ pos hlt
                                  have HS := Aside0.mk ((all_step vv_ pos hlt).symm.trans HF.out)
                                  have hnx : ∀ ty, (Instr.next (.pointer (some ⟨wc.heap.size, 0, none⟩)) true ty).run Try.prog ((wc.drewN m).iter vv_ pos) = _ := fun ty => run_next_any (wc.drewN m) vv_ pos ty hlt
                                  clear HF
                                  generalize (Utf8.decode vv_ pos).2 = wd at *
                                  generalize (Utf8.decode vv_ pos).1 = c at *
                                  obtain ⟨bb, hbb⟩ : ∃ bb, mi (c : Int) = bb := ⟨_, rfl⟩
                                  have HC := Aside0.mk (member_is (c : Int))
                                  rw [hbb] at HC HS
                                  clear hbb
                                  cases bb with
                                  | false =>
                                    exact absurd HS.out (by simp)
                                  | true =>
                                    have HR : Aside0 (((B vv_).drop (pos + wd)).all mc = true) := ⟨by have := HS.out; simpa using this⟩
                                    clear HS
                                    go_wp2_with (first | (go_at_call 21; (with_reducible refine (dbus_isMemberChar.calls (c : Int) _ _ HC.out).mono ?_); rintro e w3 ⟨rfl, ⟨n2, rfl⟩⟩; refine ⟨_, rfl, ?_⟩) | ((with_reducible refine gate_callee (f := 21) rfl ?_); refine goesL_ (some 49) rfl rfl Try.func21 (by kernel_rfl) rfl #[.int .i32 (c : Int)] rfl (by (try simp only [List.map_toArray, List.map_cons, List.map_nil]); first | done | rfl) ?_; (with_reducible refine (dbus_isMemberChar.calls (c : Int) _ _ HC.out).mono ?_); rintro e w3 ⟨rfl, ⟨n2, rfl⟩⟩; refine ⟨_, rfl, ?_⟩))
                                    go_roundw
                                    case rel => exact ⟨m + n2, pos + wd, by rw [iter_drewN, World.drewN_drewN], by omega, HR⟩
                                    case measure => simp only [iter_drewN, World.drewN_drewN, iterPos_d]; omega
                                · have hnx : ∀ ty, (Instr.next (.pointer (some ⟨wc.heap.size, 0, none⟩)) true ty).run Try.prog ((wc.drewN m).iter vv_ pos) = _ := fun ty => run_next_end (wc.drewN m) vv_ pos ty hlt
                                  clear HF
                                  go_wp2
                                  go_roundg kj17
                                  case measure => have := HJ1.out; have := HK2.out; have := HJ17.out; omega
                                  case rel => exact ⟨(wrap64 (x28_2 + 1)), (by first | rfl | (simp; done) | (simp [*]; done)), H', ⟨by have := HJ1.out; have := HK2.out; have := HJ17.out; omega⟩, ⟨R_it HO_26.out _ _ _⟩, ⟨by repeat (first | exact below_it2 HB.out _ _ _ | apply pw_below_drewN | apply below_drew1)⟩⟩
                  · rw [if_neg c16] at H
                    exact absurd H (by simp)
                · rw [if_neg c15] at H
                  exact absurd H (by simp)
              · rw [if_neg c14] at H
                have c14b0 : decide (x28_2 < (t112.length : Int)) = false := decide_eq_false c14
                clear c14
                obtain rfl := Option.some.inj H
                go_wp2
                go_ret
                exact ⟨by first | rfl | (simp [errW_none, errW_some] <;> rfl) | (simp [*, errW_none, errW_some] <;> rfl), by repeat (first | (with_reducible first | exact HB.out | apply below_alloc | apply pw_below_drewN | apply below_drew1) | exact HB.out)⟩

end Go.Proofs.Ytheopfecoakhnaa.Ext
