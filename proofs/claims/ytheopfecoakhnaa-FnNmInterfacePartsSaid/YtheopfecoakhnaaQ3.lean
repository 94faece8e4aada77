-- Written by a program of this session out of the translation; Lean checks it.
import Derived.Test.YtheopfecoakhnaaQ0
namespace Go.Proofs.Ytheopfecoakhnaa.Q
open Go.RowKit Go.Proofs.Ytheopfecoakhnaa.Ext Go.Proofs.YtheopfecoakhnaaW.PrintWords Go.Proofs.YtheopfecoakhnaaW.PrintLast Go.Proofs.YtheopfecoakhnaaW.PrintMore
attribute [local go_sem] max2_int min2_int max_two min_two max_three min_three max_four min_four   -- for this text's walks alone
set_option linter.unusedVariables false
set_option linter.unusedSimpArgs false

/-! ### laws_zzFits5: function 8 -/
def laws_zzFits5.l0 : Nat → List ByteArray → Int → Int → Option (Bool)
  | 0, _, _, _ => none
  | k + 1, x8, x9, x10 => if x10 < x9 then (if 0 ≤ x10 then (if x10 < (x8.length : Int) then (if ((rdOf ByteArray.empty x8 x10).size : Int) > 2147483647 then (some false) else (laws_zzFits5.l0 k x8 x9 (wrap64 (x10 + 1)))) else (none)) else (none)) else (some true)
def laws_zzFits5.f (k : Nat) (l0 : List ByteArray) : Option (Bool) := if (l0.length : Int) > 2147483647 then (some false) else (laws_zzFits5.l0 k l0 (l0.length : Int) 0)
theorem laws_zzFits5.mono_l : ∀ k, (∀ y0 y1 y2, LeO (laws_zzFits5.l0 k y0 y1 y2) (laws_zzFits5.l0 (k + 1) y0 y1 y2))
  | 0 => fun _ _ _ r h => by simp [laws_zzFits5.l0] at h
  | k + 1 => by
    have ih0 := laws_zzFits5.mono_l k
    · intro y0 y1 y2
      unfold laws_zzFits5.l0
      repeat' first
      | (with_reducible exact ih0 _ _ _)
      | (with_reducible exact LeO.refl _)
      | (with_reducible exact LeO.none _)
      | (with_reducible refine LeO.ite ?_ ?_)
      | (with_reducible refine LeO.bind ?_ (fun _ => ?_))
      | exact ih0 _ _ _
      | exact LeO.none _
      | refine LeO.ite ?_ ?_
      | refine LeO.bind ?_ (fun _ => ?_)
theorem laws_zzFits5.mono : ∀ a0 k, LeO (laws_zzFits5.f k a0) (laws_zzFits5.f (k + 1) a0) := by
  intro a0 k
  have ih0 := laws_zzFits5.mono_l k
  unfold laws_zzFits5.f
  repeat' first
      | (with_reducible exact ih0 _ _ _)
      | (with_reducible exact LeO.refl _)
      | (with_reducible exact LeO.none _)
      | (with_reducible refine LeO.ite ?_ ?_)
      | (with_reducible refine LeO.bind ?_ (fun _ => ?_))
      | exact ih0 _ _ _
      | exact LeO.none _
      | refine LeO.ite ?_ ?_
      | refine LeO.bind ?_ (fun _ => ?_)
set_option maxHeartbeats 8000000 in
set_option maxRecDepth 100000 in
theorem laws_zzFits5.calls (k : Nat) (A0 : Option Addr) (c0 : Nat) (l0 : List ByteArray) (r : Bool) (w : World) (hr0 : Kd.C Kd.string w A0 l0.length l0) (hc0 : l0.length ≤ c0) (h : laws_zzFits5.f k l0 = some r) :
    Calls Try.prog 8 #[.slice A0 l0.length c0] w fun e w' => e = .returned (.bool r) ∧ Drawn0 w w' := by
  have HR0 := Aside0.mk hr0
  have HC0 := Aside0.mk hc0
  clear hr0 hc0
  have H : (if (l0.length : Int) > 2147483647 then (some false) else (laws_zzFits5.l0 k l0 (l0.length : Int) 0)) = some r := h
  clear h
  by_cases c2 : (l0.length : Int) > 2147483647
  · rw [if_pos c2] at H
    have c2b0 : decide (2147483647 < (l0.length : Int)) = true := decide_eq_true c2
    have c2b1 : decide (2147483647 < l0.length) = true := decide_eq_true (by omega)
    clear c2
    obtain rfl := Option.some.inj H
    go_enter Try.func8, Try.ntmps8
    go_wp2
    go_ret
    exact ⟨by first | rfl | (simp; done) | (simp [*]; done), by repeat (first | exact Drawn0.refl _ | apply Drawn0.step)⟩
  · rw [if_neg c2] at H
    have c2b0 : decide (2147483647 < (l0.length : Int)) = false := decide_eq_false c2
    have c2b1 : decide (2147483647 < l0.length) = false := decide_eq_false (by omega)
    clear c2
    have H' := Aside0.mk H
    clear H
    go_enter Try.func8, Try.ntmps8
    go_wp2
    go_loopg [10] k (fun kq v10 w' => ∃ (x10_1 : Int), v10 = .int .i64 x10_1 ∧ Aside0 (laws_zzFits5.l0 kq l0 (l0.length : Int) x10_1 = some r) ∧ Aside0 (kq ≤ k) ∧ Drawn0 w w')
    case atStart => exact ⟨(0), (by first | rfl | (simp; done) | (simp [*]; done)), H', ⟨Nat.le_refl _⟩, by repeat (first | exact Drawn0.refl _ | apply Drawn0.step)⟩
    case round =>
      clear H'
      try clear c2
      try clear c2b0
      try clear c2b1
      try clear p2
      obtain ⟨x10_1, rfl, HA, HK1, ⟨m1, rfl⟩⟩ := hrel
      cases gk with
      | zero => exact absurd HA.out (by simp [laws_zzFits5.l0])
      | succ k1 =>
        have H := HA.out
        clear HA
        simp only [laws_zzFits5.l0] at H
        by_cases c3 : x10_1 < (l0.length : Int)
        · rw [if_pos c3] at H
          have c3b0 : decide (x10_1 < (l0.length : Int)) = true := decide_eq_true c3
          clear c3
          by_cases c4 : 0 ≤ x10_1
          · rw [if_pos c4] at H
            have c4b0 : decide (0 ≤ x10_1) = true := decide_eq_true c4
            clear c4
            by_cases c5 : x10_1 < (l0.length : Int)
            · rw [if_pos c5] at H
              have c5b0 : decide (x10_1 < (l0.length : Int)) = true := decide_eq_true c5
              clear c5
              by_cases c6 : ((rdOf ByteArray.empty l0 x10_1).size : Int) > 2147483647
              · rw [if_pos c6] at H
                have c6b0 : decide (2147483647 < ((rdOf ByteArray.empty l0 x10_1).size : Int)) = true := decide_eq_true c6
                have c6b1 : decide (2147483647 < (rdOf ByteArray.empty l0 x10_1).size) = true := decide_eq_true (by omega)
                clear c6
                obtain rfl := Option.some.inj H
                have p107 : 0 ≤ (x10_1 : Int) := of_decide_eq_true (by first | (with_reducible assumption) | assumption)
                have q107 : x10_1 < (l0.length : Int) := of_decide_eq_true (by first | (with_reducible assumption) | assumption)
                obtain ⟨ad107, e107, hx107_0⟩ := Kd.at_string HR0.out x10_1 p107 q107
                cases e107
                replace p107 := eq_true p107
                replace q107 := eq_true q107
                go_wp2
                go_ret
                exact ⟨by first | rfl | (simp; done) | (simp [*]; done), by repeat (first | exact Drawn0.refl _ | apply Drawn0.step)⟩
              · rw [if_neg c6] at H
                have c6b0 : decide (2147483647 < ((rdOf ByteArray.empty l0 x10_1).size : Int)) = false := decide_eq_false c6
                have c6b1 : decide (2147483647 < (rdOf ByteArray.empty l0 x10_1).size) = false := decide_eq_false (by omega)
                clear c6
                have H' := Aside0.mk H
                clear H
                have p107 : 0 ≤ (x10_1 : Int) := of_decide_eq_true (by first | (with_reducible assumption) | assumption)
                have q107 : x10_1 < (l0.length : Int) := of_decide_eq_true (by first | (with_reducible assumption) | assumption)
                obtain ⟨ad107, e107, hx107_0⟩ := Kd.at_string HR0.out x10_1 p107 q107
                cases e107
                replace p107 := eq_true p107
                replace q107 := eq_true q107
                go_wp2
                go_roundg k1
                case measure => have := HK1.out; omega
                case rel => exact ⟨(wrap64 (x10_1 + 1)), (by first | rfl | (simp; done) | (simp [*]; done)), H', ⟨by have := HK1.out; omega⟩, by repeat (first | exact Drawn0.refl _ | apply Drawn0.step)⟩
            · rw [if_neg c5] at H
              exact absurd H (by simp)
          · rw [if_neg c4] at H
            exact absurd H (by simp)
        · rw [if_neg c3] at H
          have c3b0 : decide (x10_1 < (l0.length : Int)) = false := decide_eq_false c3
          clear c3
          obtain rfl := Option.some.inj H
          go_wp2
          go_ret
          exact ⟨by first | rfl | (simp; done) | (simp [*]; done), by repeat (first | exact Drawn0.refl _ | apply Drawn0.step)⟩

-- BY HAND: function 22 (dbus_isValidMember), in Derived.Test.YtheopfecoakhnaaExt2

/-! ### dbus_DoorMember: function 16 -/
def dbus_DoorMember.f (k : Nat) (a0 : ByteArray) : Option (Bool) := (dbus_isValidMember.f k a0).bind fun t108 => (some t108)
theorem dbus_DoorMember.mono : ∀ a0 k, LeO (dbus_DoorMember.f k a0) (dbus_DoorMember.f (k + 1) a0) := by
  intro a0 k
  unfold dbus_DoorMember.f
  repeat' first
      | (with_reducible exact dbus_isValidMember.mono _ _)
      | (with_reducible exact LeO.refl _)
      | (with_reducible exact LeO.none _)
      | (with_reducible refine LeO.ite ?_ ?_)
      | (with_reducible refine LeO.bind ?_ (fun _ => ?_))
      | exact dbus_isValidMember.mono _ _
      | exact LeO.none _
      | refine LeO.ite ?_ ?_
      | refine LeO.bind ?_ (fun _ => ?_)
set_option maxHeartbeats 8000000 in
set_option maxRecDepth 100000 in
theorem dbus_DoorMember.calls (k : Nat) (a0 : ByteArray) (r : Bool) (w : World) (h : dbus_DoorMember.f k a0 = some r) :
    Calls Try.prog 16 #[.string a0] w fun e w' => e = .returned (.bool r) ∧ Below w.heap.size w w' := by
  have HB := Aside0.mk (Below.refl w.heap.size w)
  have H : ((dbus_isValidMember.f k a0).bind fun t108 => (some t108)) = some r := h
  clear h
  replace H := Option.bind_eq_some_iff.mp H
  obtain ⟨t108, A20, H⟩ := H
  replace H : (some t108) = some r := H
  have A2 := Aside0.mk A20
  clear A20
  obtain rfl := Option.some.inj H
  go_enter Try.func16, Try.ntmps16
  go_wp2_with (first | ((with_reducible refine gate_callee (f := 22) rfl ?_); refine goesL_ (some 4) rfl rfl Try.func22 (by kernel_rfl) rfl #[.string a0] rfl (by (try simp only [List.map_toArray, List.map_cons, List.map_nil]); first | done | rfl | (simp only [List.length_drop, List.length_take]; rfl)) ?_; (with_reducible refine (dbus_isValidMember.calls k a0 t108 _ A2.out).mono ?_); rintro e w3 ⟨rfl, hb⟩; refine ⟨_, rfl, ?_⟩; have n0_ := Aside0.mk (below_step (by repeat (first | (with_reducible first | exact HB.out | apply below_alloc | apply pw_below_drewN | apply below_drew1) | exact HB.out)) hb); clear HB; have HB := n0_; clear n0_; (try clear hb); (try clear hb2); (try clear hk); (try clear hi)))
  go_ret
  exact ⟨by first | rfl | (simp [errW_none, errW_some] <;> rfl) | (simp [*, errW_none, errW_some] <;> rfl), by repeat (first | (with_reducible first | exact HB.out | apply below_alloc | apply pw_below_drewN | apply below_drew1) | exact HB.out)⟩

/-! ### impl_NmMember: function 9 -/
def impl_NmMember.f (k : Nat) (a0 : ByteArray) : Option (Bool) := (dbus_DoorMember.f k a0).bind fun t109 => (some t109)
theorem impl_NmMember.mono : ∀ a0 k, LeO (impl_NmMember.f k a0) (impl_NmMember.f (k + 1) a0) := by
  intro a0 k
  unfold impl_NmMember.f
  repeat' first
      | (with_reducible exact dbus_DoorMember.mono _ _)
      | (with_reducible exact LeO.refl _)
      | (with_reducible exact LeO.none _)
      | (with_reducible refine LeO.ite ?_ ?_)
      | (with_reducible refine LeO.bind ?_ (fun _ => ?_))
      | exact dbus_DoorMember.mono _ _
      | exact LeO.none _
      | refine LeO.ite ?_ ?_
      | refine LeO.bind ?_ (fun _ => ?_)
set_option maxHeartbeats 8000000 in
set_option maxRecDepth 100000 in
theorem impl_NmMember.calls (k : Nat) (a0 : ByteArray) (r : Bool) (w : World) (h : impl_NmMember.f k a0 = some r) :
    Calls Try.prog 9 #[.string a0] w fun e w' => e = .returned (.bool r) ∧ Below w.heap.size w w' := by
  have HB := Aside0.mk (Below.refl w.heap.size w)
  have H : ((dbus_DoorMember.f k a0).bind fun t109 => (some t109)) = some r := h
  clear h
  replace H := Option.bind_eq_some_iff.mp H
  obtain ⟨t109, A20, H⟩ := H
  replace H : (some t109) = some r := H
  have A2 := Aside0.mk A20
  clear A20
  obtain rfl := Option.some.inj H
  go_enter Try.func9, Try.ntmps9
  go_wp2_with (first | ((with_reducible refine gate_callee (f := 16) rfl ?_); refine goesL_ (some 4) rfl rfl Try.func16 (by kernel_rfl) rfl #[.string a0] rfl (by (try simp only [List.map_toArray, List.map_cons, List.map_nil]); first | done | rfl | (simp only [List.length_drop, List.length_take]; rfl)) ?_; (with_reducible refine (dbus_DoorMember.calls k a0 t109 _ A2.out).mono ?_); rintro e w3 ⟨rfl, hb⟩; refine ⟨_, rfl, ?_⟩; have n0_ := Aside0.mk (below_step (by repeat (first | (with_reducible first | exact HB.out | apply below_alloc | apply pw_below_drewN | apply below_drew1) | exact HB.out)) hb); clear HB; have HB := n0_; clear n0_; (try clear hb); (try clear hb2); (try clear hk); (try clear hi)))
  go_ret
  exact ⟨by first | rfl | (simp [errW_none, errW_some] <;> rfl) | (simp [*, errW_none, errW_some] <;> rfl), by repeat (first | (with_reducible first | exact HB.out | apply below_alloc | apply pw_below_drewN | apply below_drew1) | exact HB.out)⟩

-- BY HAND: function 23 (dbus_isValidInterface), in Derived.Test.YtheopfecoakhnaaExt2

/-! ### dbus_DoorInterface: function 17 -/
def dbus_DoorInterface.f (k : Nat) (a0 : ByteArray) : Option (Bool) := (dbus_isValidInterface.f k a0).bind fun t110 => (some t110)
theorem dbus_DoorInterface.mono : ∀ a0 k, LeO (dbus_DoorInterface.f k a0) (dbus_DoorInterface.f (k + 1) a0) := by
  intro a0 k
  unfold dbus_DoorInterface.f
  repeat' first
      | (with_reducible exact dbus_isValidInterface.mono _ _)
      | (with_reducible exact LeO.refl _)
      | (with_reducible exact LeO.none _)
      | (with_reducible refine LeO.ite ?_ ?_)
      | (with_reducible refine LeO.bind ?_ (fun _ => ?_))
      | exact dbus_isValidInterface.mono _ _
      | exact LeO.none _
      | refine LeO.ite ?_ ?_
      | refine LeO.bind ?_ (fun _ => ?_)
set_option maxHeartbeats 8000000 in
set_option maxRecDepth 100000 in
theorem dbus_DoorInterface.calls (k : Nat) (a0 : ByteArray) (r : Bool) (w : World) (h : dbus_DoorInterface.f k a0 = some r) :
    Calls Try.prog 17 #[.string a0] w fun e w' => e = .returned (.bool r) ∧ Below w.heap.size w w' := by
  have HB := Aside0.mk (Below.refl w.heap.size w)
  have H : ((dbus_isValidInterface.f k a0).bind fun t110 => (some t110)) = some r := h
  clear h
  replace H := Option.bind_eq_some_iff.mp H
  obtain ⟨t110, A20, H⟩ := H
  replace H : (some t110) = some r := H
  have A2 := Aside0.mk A20
  clear A20
  obtain rfl := Option.some.inj H
  go_enter Try.func17, Try.ntmps17
  go_wp2_with (first | ((with_reducible refine gate_callee (f := 23) rfl ?_); refine goesL_ (some 4) rfl rfl Try.func23 (by kernel_rfl) rfl #[.string a0] rfl (by (try simp only [List.map_toArray, List.map_cons, List.map_nil]); first | done | rfl | (simp only [List.length_drop, List.length_take]; rfl)) ?_; (with_reducible refine (dbus_isValidInterface.calls k a0 t110 _ A2.out).mono ?_); rintro e w3 ⟨rfl, hb⟩; refine ⟨_, rfl, ?_⟩; have n0_ := Aside0.mk (below_step (by repeat (first | (with_reducible first | exact HB.out | apply below_alloc | apply pw_below_drewN | apply below_drew1) | exact HB.out)) hb); clear HB; have HB := n0_; clear n0_; (try clear hb); (try clear hb2); (try clear hk); (try clear hi)))
  go_ret
  exact ⟨by first | rfl | (simp [errW_none, errW_some] <;> rfl) | (simp [*, errW_none, errW_some] <;> rfl), by repeat (first | (with_reducible first | exact HB.out | apply below_alloc | apply pw_below_drewN | apply below_drew1) | exact HB.out)⟩

/-! ### impl_NmInterface: function 10 -/
def impl_NmInterface.f (k : Nat) (a0 : ByteArray) : Option (Bool) := (dbus_DoorInterface.f k a0).bind fun t111 => (some t111)
theorem impl_NmInterface.mono : ∀ a0 k, LeO (impl_NmInterface.f k a0) (impl_NmInterface.f (k + 1) a0) := by
  intro a0 k
  unfold impl_NmInterface.f
  repeat' first
      | (with_reducible exact dbus_DoorInterface.mono _ _)
      | (with_reducible exact LeO.refl _)
      | (with_reducible exact LeO.none _)
      | (with_reducible refine LeO.ite ?_ ?_)
      | (with_reducible refine LeO.bind ?_ (fun _ => ?_))
      | exact dbus_DoorInterface.mono _ _
      | exact LeO.none _
      | refine LeO.ite ?_ ?_
      | refine LeO.bind ?_ (fun _ => ?_)
set_option maxHeartbeats 8000000 in
set_option maxRecDepth 100000 in
theorem impl_NmInterface.calls (k : Nat) (a0 : ByteArray) (r : Bool) (w : World) (h : impl_NmInterface.f k a0 = some r) :
    Calls Try.prog 10 #[.string a0] w fun e w' => e = .returned (.bool r) ∧ Below w.heap.size w w' := by
  have HB := Aside0.mk (Below.refl w.heap.size w)
  have H : ((dbus_DoorInterface.f k a0).bind fun t111 => (some t111)) = some r := h
  clear h
  replace H := Option.bind_eq_some_iff.mp H
  obtain ⟨t111, A20, H⟩ := H
  replace H : (some t111) = some r := H
  have A2 := Aside0.mk A20
  clear A20
  obtain rfl := Option.some.inj H
  go_enter Try.func10, Try.ntmps10
  go_wp2_with (first | ((with_reducible refine gate_callee (f := 17) rfl ?_); refine goesL_ (some 4) rfl rfl Try.func17 (by kernel_rfl) rfl #[.string a0] rfl (by (try simp only [List.map_toArray, List.map_cons, List.map_nil]); first | done | rfl | (simp only [List.length_drop, List.length_take]; rfl)) ?_; (with_reducible refine (dbus_DoorInterface.calls k a0 t111 _ A2.out).mono ?_); rintro e w3 ⟨rfl, hb⟩; refine ⟨_, rfl, ?_⟩; have n0_ := Aside0.mk (below_step (by repeat (first | (with_reducible first | exact HB.out | apply below_alloc | apply pw_below_drewN | apply below_drew1) | exact HB.out)) hb); clear HB; have HB := n0_; clear n0_; (try clear hb); (try clear hb2); (try clear hk); (try clear hi)))
  go_ret
  exact ⟨by first | rfl | (simp [errW_none, errW_some] <;> rfl) | (simp [*, errW_none, errW_some] <;> rfl), by repeat (first | (with_reducible first | exact HB.out | apply below_alloc | apply pw_below_drewN | apply below_drew1) | exact HB.out)⟩

/-! ### laws_FnNmInterfaceParts: function 4 -/
mutual
def laws_FnNmInterfaceParts.j0 : Nat → List ByteArray → Bool → Option (Bool)
  | 0, _, _ => none
  | k + 1, x0, x20 => if x20 = true then (some true) else (laws_FnNmInterfaceParts.l0 k x0 (⟨#[]⟩ : ByteArray) true x0 (x0.length : Int) 0)
def laws_FnNmInterfaceParts.l0 : Nat → List ByteArray → ByteArray → Bool → List ByteArray → Int → Int → Option (Bool)
  | 0, _, _, _, _, _, _ => none
  | k + 1, x0, x3, x4, x21, x22, x23 => if x23 < x22 then (if 0 ≤ x23 then (if x23 < (x21.length : Int) then (if ((rdOf ByteArray.empty x21 x23).size : Int) > 300 then (some true) else (laws_FnNmInterfaceParts.l1 k x0 x3 x4 x23 (rdOf ByteArray.empty x21 x23) 0 x21 x22 x23)) else (none)) else (none)) else (laws_FnNmInterfaceParts.l2 k x3 x4 x0 (x0.length : Int) 0)
def laws_FnNmInterfaceParts.l1 : Nat → List ByteArray → ByteArray → Bool → Int → ByteArray → Int → List ByteArray → Int → Int → Option (Bool)
  | 0, _, _, _, _, _, _, _, _, _ => none
  | k + 1, x0, x3, x4, x5, x6, x7, x21, x22, x23 => if x7 < (x6.size : Int) then (if 0 ≤ x7 then (if (bt x6 x7) = 46 then (some true) else (laws_FnNmInterfaceParts.l1 k x0 x3 x4 x5 x6 (wrap64 (x7 + 1)) x21 x22 x23)) else (none)) else (if x5 > 0 then (if x3.size + 1 ≤ 9223372036854775807 then (if (x3 ++ (⟨#[46]⟩ : ByteArray)).size + x6.size ≤ 9223372036854775807 then (laws_FnNmInterfaceParts.l0 k x0 ((x3 ++ (⟨#[46]⟩ : ByteArray)) ++ x6) x4 x21 x22 (wrap64 (x23 + 1))) else (none)) else (none)) else (if x3.size + x6.size ≤ 9223372036854775807 then (laws_FnNmInterfaceParts.l0 k x0 (x3 ++ x6) x4 x21 x22 (wrap64 (x23 + 1))) else (none)))
def laws_FnNmInterfaceParts.l2 : Nat → ByteArray → Bool → List ByteArray → Int → Int → Option (Bool)
  | 0, _, _, _, _, _ => none
  | k + 1, x3, x4, x49, x50, x51 => if x51 < x50 then (if 0 ≤ x51 then (if x51 < (x49.length : Int) then (if x4 = true then ((impl_NmMember.f k (rdOf ByteArray.empty x49 x51)).bind fun t115 => (laws_FnNmInterfaceParts.l2 k x3 t115 x49 x50 (wrap64 (x51 + 1)))) else (laws_FnNmInterfaceParts.l2 k x3 false x49 x50 (wrap64 (x51 + 1)))) else (none)) else (none)) else ((impl_NmInterface.f k x3).bind fun t116 => (if x4 = true then (if (t116 == (decide ((x3.size : Int) ≤ 255))) = true then ((impl_NmMember.f k (⟨#[97]⟩ : ByteArray)).bind fun t117 => (some t117)) else (some false)) else (if (t116 == false) = true then ((impl_NmMember.f k (⟨#[97]⟩ : ByteArray)).bind fun t118 => (some t118)) else (some false))))
end
def laws_FnNmInterfaceParts.f (k : Nat) (l0 : List ByteArray) : Option (Bool) := (laws_zzFits5.f k l0).bind fun t112 => (if t112 = true then (if (l0.length : Int) < 2 then (laws_FnNmInterfaceParts.j0 k l0 true) else (laws_FnNmInterfaceParts.j0 k l0 (decide ((l0.length : Int) > 40)))) else (some true))
theorem laws_FnNmInterfaceParts.mono_l : ∀ k, (∀ y0 y1, LeO (laws_FnNmInterfaceParts.j0 k y0 y1) (laws_FnNmInterfaceParts.j0 (k + 1) y0 y1)) ∧ (∀ y0 y1 y2 y3 y4 y5, LeO (laws_FnNmInterfaceParts.l0 k y0 y1 y2 y3 y4 y5) (laws_FnNmInterfaceParts.l0 (k + 1) y0 y1 y2 y3 y4 y5)) ∧ (∀ y0 y1 y2 y3 y4 y5 y6 y7 y8, LeO (laws_FnNmInterfaceParts.l1 k y0 y1 y2 y3 y4 y5 y6 y7 y8) (laws_FnNmInterfaceParts.l1 (k + 1) y0 y1 y2 y3 y4 y5 y6 y7 y8)) ∧ (∀ y0 y1 y2 y3 y4, LeO (laws_FnNmInterfaceParts.l2 k y0 y1 y2 y3 y4) (laws_FnNmInterfaceParts.l2 (k + 1) y0 y1 y2 y3 y4))
  | 0 => ⟨fun _ _ r h => by simp [laws_FnNmInterfaceParts.j0] at h, fun _ _ _ _ _ _ r h => by simp [laws_FnNmInterfaceParts.l0] at h, fun _ _ _ _ _ _ _ _ _ r h => by simp [laws_FnNmInterfaceParts.l1] at h, fun _ _ _ _ _ r h => by simp [laws_FnNmInterfaceParts.l2] at h⟩
  | k + 1 => by
    obtain ⟨ih0, ih1, ih2, ih3⟩ := laws_FnNmInterfaceParts.mono_l k
    refine ⟨?_, ?_, ?_, ?_⟩
    · intro y0 y1
      unfold laws_FnNmInterfaceParts.j0
      repeat' first
      | (with_reducible exact ih0 _ _)
      | (with_reducible exact ih1 _ _ _ _ _ _)
      | (with_reducible exact ih2 _ _ _ _ _ _ _ _ _)
      | (with_reducible exact ih3 _ _ _ _ _)
      | (with_reducible exact impl_NmInterface.mono _ _)
      | (with_reducible exact impl_NmMember.mono _ _)
      | (with_reducible exact laws_zzFits5.mono _ _)
      | (with_reducible exact LeO.refl _)
      | (with_reducible exact LeO.none _)
      | (with_reducible refine LeO.ite ?_ ?_)
      | (with_reducible refine LeO.bind ?_ (fun _ => ?_))
      | exact ih0 _ _
      | exact ih1 _ _ _ _ _ _
      | exact ih2 _ _ _ _ _ _ _ _ _
      | exact ih3 _ _ _ _ _
      | exact impl_NmInterface.mono _ _
      | exact impl_NmMember.mono _ _
      | exact laws_zzFits5.mono _ _
      | exact LeO.none _
      | refine LeO.ite ?_ ?_
      | refine LeO.bind ?_ (fun _ => ?_)
    · intro y0 y1 y2 y3 y4 y5
      unfold laws_FnNmInterfaceParts.l0
      repeat' first
      | (with_reducible exact ih0 _ _)
      | (with_reducible exact ih1 _ _ _ _ _ _)
      | (with_reducible exact ih2 _ _ _ _ _ _ _ _ _)
      | (with_reducible exact ih3 _ _ _ _ _)
      | (with_reducible exact impl_NmInterface.mono _ _)
      | (with_reducible exact impl_NmMember.mono _ _)
      | (with_reducible exact laws_zzFits5.mono _ _)
      | (with_reducible exact LeO.refl _)
      | (with_reducible exact LeO.none _)
      | (with_reducible refine LeO.ite ?_ ?_)
      | (with_reducible refine LeO.bind ?_ (fun _ => ?_))
      | exact ih0 _ _
      | exact ih1 _ _ _ _ _ _
      | exact ih2 _ _ _ _ _ _ _ _ _
      | exact ih3 _ _ _ _ _
      | exact impl_NmInterface.mono _ _
      | exact impl_NmMember.mono _ _
      | exact laws_zzFits5.mono _ _
      | exact LeO.none _
      | refine LeO.ite ?_ ?_
      | refine LeO.bind ?_ (fun _ => ?_)
    · intro y0 y1 y2 y3 y4 y5 y6 y7 y8
      unfold laws_FnNmInterfaceParts.l1
      repeat' first
      | (with_reducible exact ih0 _ _)
      | (with_reducible exact ih1 _ _ _ _ _ _)
      | (with_reducible exact ih2 _ _ _ _ _ _ _ _ _)
      | (with_reducible exact ih3 _ _ _ _ _)
      | (with_reducible exact impl_NmInterface.mono _ _)
      | (with_reducible exact impl_NmMember.mono _ _)
      | (with_reducible exact laws_zzFits5.mono _ _)
      | (with_reducible exact LeO.refl _)
      | (with_reducible exact LeO.none _)
      | (with_reducible refine LeO.ite ?_ ?_)
      | (with_reducible refine LeO.bind ?_ (fun _ => ?_))
      | exact ih0 _ _
      | exact ih1 _ _ _ _ _ _
      | exact ih2 _ _ _ _ _ _ _ _ _
      | exact ih3 _ _ _ _ _
      | exact impl_NmInterface.mono _ _
      | exact impl_NmMember.mono _ _
      | exact laws_zzFits5.mono _ _
      | exact LeO.none _
      | refine LeO.ite ?_ ?_
      | refine LeO.bind ?_ (fun _ => ?_)
    · intro y0 y1 y2 y3 y4
      unfold laws_FnNmInterfaceParts.l2
      repeat' first
      | (with_reducible exact ih0 _ _)
      | (with_reducible exact ih1 _ _ _ _ _ _)
      | (with_reducible exact ih2 _ _ _ _ _ _ _ _ _)
      | (with_reducible exact ih3 _ _ _ _ _)
      | (with_reducible exact impl_NmInterface.mono _ _)
      | (with_reducible exact impl_NmMember.mono _ _)
      | (with_reducible exact laws_zzFits5.mono _ _)
      | (with_reducible exact LeO.refl _)
      | (with_reducible exact LeO.none _)
      | (with_reducible refine LeO.ite ?_ ?_)
      | (with_reducible refine LeO.bind ?_ (fun _ => ?_))
      | exact ih0 _ _
      | exact ih1 _ _ _ _ _ _
      | exact ih2 _ _ _ _ _ _ _ _ _
      | exact ih3 _ _ _ _ _
      | exact impl_NmInterface.mono _ _
      | exact impl_NmMember.mono _ _
      | exact laws_zzFits5.mono _ _
      | exact LeO.none _
      | refine LeO.ite ?_ ?_
      | refine LeO.bind ?_ (fun _ => ?_)
theorem laws_FnNmInterfaceParts.mono : ∀ a0 k, LeO (laws_FnNmInterfaceParts.f k a0) (laws_FnNmInterfaceParts.f (k + 1) a0) := by
  intro a0 k
  obtain ⟨ih0, ih1, ih2, ih3⟩ := laws_FnNmInterfaceParts.mono_l k
  unfold laws_FnNmInterfaceParts.f
  repeat' first
      | (with_reducible exact ih0 _ _)
      | (with_reducible exact ih1 _ _ _ _ _ _)
      | (with_reducible exact ih2 _ _ _ _ _ _ _ _ _)
      | (with_reducible exact ih3 _ _ _ _ _)
      | (with_reducible exact impl_NmInterface.mono _ _)
      | (with_reducible exact impl_NmMember.mono _ _)
      | (with_reducible exact laws_zzFits5.mono _ _)
      | (with_reducible exact LeO.refl _)
      | (with_reducible exact LeO.none _)
      | (with_reducible refine LeO.ite ?_ ?_)
      | (with_reducible refine LeO.bind ?_ (fun _ => ?_))
      | exact ih0 _ _
      | exact ih1 _ _ _ _ _ _
      | exact ih2 _ _ _ _ _ _ _ _ _
      | exact ih3 _ _ _ _ _
      | exact impl_NmInterface.mono _ _
      | exact impl_NmMember.mono _ _
      | exact laws_zzFits5.mono _ _
      | exact LeO.none _
      | refine LeO.ite ?_ ?_
      | refine LeO.bind ?_ (fun _ => ?_)
set_option maxHeartbeats 8000000 in
set_option maxRecDepth 100000 in
theorem laws_FnNmInterfaceParts.calls (k : Nat) (A0 : Option Addr) (c0 : Nat) (l0 : List ByteArray) (r : Bool) (w : World) (hr0 : Kd.C Kd.string w A0 l0.length l0) (hc0 : l0.length ≤ c0) (h : laws_FnNmInterfaceParts.f k l0 = some r) :
    Calls Try.prog 4 #[.slice A0 l0.length c0] w fun e w' => e = .returned (.bool r) ∧ Below w.heap.size w w' := by
  have HR0 := Aside0.mk hr0
  have HC0 := Aside0.mk hc0
  clear hr0 hc0
  have HB := Aside0.mk (Below.refl w.heap.size w)
  have H : ((laws_zzFits5.f k l0).bind fun t112 => (if t112 = true then (if (l0.length : Int) < 2 then (laws_FnNmInterfaceParts.j0 k l0 true) else (laws_FnNmInterfaceParts.j0 k l0 (decide ((l0.length : Int) > 40)))) else (some true))) = some r := h
  clear h
  replace H := Option.bind_eq_some_iff.mp H
  obtain ⟨t112, A20, H⟩ := H
  replace H : (if t112 = true then (if (l0.length : Int) < 2 then (laws_FnNmInterfaceParts.j0 k l0 true) else (laws_FnNmInterfaceParts.j0 k l0 (decide ((l0.length : Int) > 40)))) else (some true)) = some r := H
  have A2 := Aside0.mk A20
  clear A20
  by_cases c3 : t112 = true
  · subst c3
    have H1 : (if (l0.length : Int) < 2 then (laws_FnNmInterfaceParts.j0 k l0 true) else (laws_FnNmInterfaceParts.j0 k l0 (decide ((l0.length : Int) > 40)))) = some r := by rw [if_pos rfl] at H; exact H
    clear H
    have H := H1
    clear H1
    have HC4 := Aside0.mk H
    clear H
    go_enter Try.func4, Try.ntmps4
    go_upto_region 3 with (first | ((with_reducible refine gate_callee (f := 8) rfl ?_); refine goesL_ (some 11) rfl rfl Try.func8 (by kernel_rfl) rfl #[.slice A0 l0.length c0] rfl (by (try simp only [List.map_toArray, List.map_cons, List.map_nil]); first | done | rfl | (simp only [List.length_drop, List.length_take]; rfl)) ?_; (with_reducible refine (laws_zzFits5.calls k _ _ l0 true _ ?side1 ?side2 A2.out).mono ?_); (case side1 => repeat (first | exact HR0.out | (with_reducible refine Kd.C_alloc ?_ _) | (with_reducible refine Kd.C_drewN ?_ _) | (with_reducible refine Kd.C_drew ?_))); (case side2 => exact HC0.out); rintro e w' ⟨rfl, ⟨nd, rfl⟩⟩; refine ⟨_, rfl, ?_⟩))
    (try simp only [Act.put, List.setIfInBounds_toArray, List.set_cons_zero, List.set_cons_succ])
    go_cut [20] (fun v20 wc => ∃ (kq : Nat) (x20_3 : Bool), v20 = .bool x20_3 ∧ Aside0 (laws_FnNmInterfaceParts.j0 kq l0 x20_3 = some r) ∧ Aside0 (kq ≤ k) ∧ Aside0 (Below w.heap.size w wc))
    case first =>
      have H := HC4.out
      clear HC4
      by_cases c5 : (l0.length : Int) < 2
      · rw [if_pos c5] at H
        have c5b0 : decide ((l0.length : Int) < 2) = true := decide_eq_true c5
        have c5b1 : decide (l0.length < 2) = true := decide_eq_true (by omega)
        clear c5
        (first | rw [c5b0] | (simp only [i64_w, i32_w]; rw [c5b0]) | skip)
        have H' := Aside0.mk H
        clear H
        go_wp2
        go_meet
        case rel => exact ⟨_, (true), (by first | rfl | (simp; done) | (simp [*]; done)), H', ⟨by first | omega | exact Nat.le_refl _⟩, ⟨by repeat (first | (with_reducible first | exact HB.out | apply below_alloc | apply pw_below_drewN | apply below_drew1) | exact HB.out)⟩⟩
      · rw [if_neg c5] at H
        have c5b0 : decide ((l0.length : Int) < 2) = false := decide_eq_false c5
        have c5b1 : decide (l0.length < 2) = false := decide_eq_false (by omega)
        clear c5
        (first | rw [c5b0] | (simp only [i64_w, i32_w]; rw [c5b0]) | skip)
        have H' := Aside0.mk H
        clear H
        go_wp2
        go_meet
        case rel => exact ⟨_, (decide ((l0.length : Int) > 40)), (by first | rfl | (simp; done) | (simp [*]; done)), H', ⟨by first | omega | exact Nat.le_refl _⟩, ⟨by repeat (first | (with_reducible first | exact HB.out | apply below_alloc | apply pw_below_drewN | apply below_drew1) | exact HB.out)⟩⟩
    case rest =>
      clear HC4
      try clear p2
      try clear c3
      try clear c4
      try clear c5
      try clear c5b0
      try clear c5b1
      obtain ⟨kq, x20_3, rfl, HA, HJ3, HB⟩ := hcut
      cases kq with
      | zero => exact absurd HA.out (by simp [laws_FnNmInterfaceParts.j0])
      | succ kj3 =>
        have H := HA.out
        clear HA
        simp only [laws_FnNmInterfaceParts.j0] at H
        by_cases c6 : x20_3 = true
        · subst c6
          have H1 : (some true) = some r := by rw [if_pos rfl] at H; exact H
          clear H
          have H := H1
          clear H1
          obtain rfl := Option.some.inj H
          go_wp2
          go_ret
          exact ⟨by first | rfl | (simp [errW_none, errW_some] <;> rfl) | (simp [*, errW_none, errW_some] <;> rfl), by repeat (first | (with_reducible first | exact HB.out | apply below_alloc | apply pw_below_drewN | apply below_drew1) | exact HB.out)⟩
        · replace c6 := Bool.eq_false_iff.mpr c6
          subst c6
          have H1 : (laws_FnNmInterfaceParts.l0 kj3 l0 (⟨#[]⟩ : ByteArray) true l0 (l0.length : Int) 0) = some r := by rw [if_neg (show ¬ (false = true) by decide)] at H; exact H
          clear H
          have H := H1
          clear H1
          have H' := Aside0.mk H
          clear H
          go_wp2
          go_loopg [3, 23] kj3 (fun kq v3 v23 w' => ∃ (x3_2 : ByteArray) (x23_2 : Int), v3 = .string x3_2 ∧ v23 = .int .i64 x23_2 ∧ Aside0 (laws_FnNmInterfaceParts.l0 kq l0 x3_2 true l0 (l0.length : Int) x23_2 = some r) ∧ Aside0 (kq ≤ kj3) ∧ Aside0 (Below w.heap.size w w'))
          case atStart => exact ⟨((⟨#[]⟩ : ByteArray)), (0), (by first | rfl | (simp; done) | (simp [*]; done)), (by first | rfl | (simp; done) | (simp [*]; done)), H', ⟨Nat.le_refl _⟩, ⟨by repeat (first | (with_reducible first | exact HB.out | apply below_alloc | apply pw_below_drewN | apply below_drew1) | exact HB.out)⟩⟩
          case round =>
            clear H'
            try clear p2
            try clear c3
            try clear c4
            try clear c5
            try clear c5b0
            try clear c5b1
            try clear c6
            try clear p2
            obtain ⟨x3_2, x23_2, rfl, rfl, HA, HK2, HB⟩ := hrel
            cases gk with
            | zero => exact absurd HA.out (by simp [laws_FnNmInterfaceParts.l0])
            | succ k2 =>
              have H := HA.out
              clear HA
              simp only [laws_FnNmInterfaceParts.l0] at H
              by_cases c7 : x23_2 < (l0.length : Int)
              · rw [if_pos c7] at H
                have c7b0 : decide (x23_2 < (l0.length : Int)) = true := decide_eq_true c7
                clear c7
                by_cases c8 : 0 ≤ x23_2
                · rw [if_pos c8] at H
                  have c8b0 : decide (0 ≤ x23_2) = true := decide_eq_true c8
                  clear c8
                  by_cases c9 : x23_2 < (l0.length : Int)
                  · rw [if_pos c9] at H
                    have c9b0 : decide (x23_2 < (l0.length : Int)) = true := decide_eq_true c9
                    clear c9
                    by_cases c10 : ((rdOf ByteArray.empty l0 x23_2).size : Int) > 300
                    · rw [if_pos c10] at H
                      have c10b0 : decide (300 < ((rdOf ByteArray.empty l0 x23_2).size : Int)) = true := decide_eq_true c10
                      have c10b1 : decide (300 < (rdOf ByteArray.empty l0 x23_2).size) = true := decide_eq_true (by omega)
                      clear c10
                      obtain rfl := Option.some.inj H
                      have p113 : 0 ≤ (x23_2 : Int) := of_decide_eq_true (by first | (with_reducible assumption) | assumption)
                      have q113 : x23_2 < (l0.length : Int) := of_decide_eq_true (by first | (with_reducible assumption) | assumption)
                      obtain ⟨ad113, e113, hx113_0⟩ := Kd.at_string HR0.out x23_2 p113 q113
                      cases e113
                      replace hx113_0 := (HB.out.cell (World.block_lt_of_cell? w _ hx113_0)).trans hx113_0
                      replace p113 := eq_true p113
                      replace q113 := eq_true q113
                      go_wp2
                      go_ret
                      exact ⟨by first | rfl | (simp [errW_none, errW_some] <;> rfl) | (simp [*, errW_none, errW_some] <;> rfl), by repeat (first | (with_reducible first | exact HB.out | apply below_alloc | apply pw_below_drewN | apply below_drew1) | exact HB.out)⟩
                    · rw [if_neg c10] at H
                      have c10b0 : decide (300 < ((rdOf ByteArray.empty l0 x23_2).size : Int)) = false := decide_eq_false c10
                      have c10b1 : decide (300 < (rdOf ByteArray.empty l0 x23_2).size) = false := decide_eq_false (by omega)
                      clear c10
                      have H' := Aside0.mk H
                      clear H
                      have p113 : 0 ≤ (x23_2 : Int) := of_decide_eq_true (by first | (with_reducible assumption) | assumption)
                      have q113 : x23_2 < (l0.length : Int) := of_decide_eq_true (by first | (with_reducible assumption) | assumption)
                      obtain ⟨ad113, e113, hx113_0⟩ := Kd.at_string HR0.out x23_2 p113 q113
                      cases e113
                      replace hx113_0 := (HB.out.cell (World.block_lt_of_cell? w _ hx113_0)).trans hx113_0
                      replace p113 := eq_true p113
                      replace q113 := eq_true q113
                      go_wp2
                      go_loopg [7] k2 (fun kq v7 w' => ∃ (x7_3 : Int), v7 = .int .i64 x7_3 ∧ Aside0 (laws_FnNmInterfaceParts.l1 kq l0 x3_2 true x23_2 (rdOf ByteArray.empty l0 x23_2) x7_3 l0 (l0.length : Int) x23_2 = some r) ∧ Aside0 (kq ≤ k2) ∧ Aside0 (Below w.heap.size w w'))
                      case atStart => exact ⟨(0), (by first | rfl | (simp; done) | (simp [*]; done)), H', ⟨Nat.le_refl _⟩, ⟨by repeat (first | (with_reducible first | exact HB.out | apply below_alloc | apply pw_below_drewN | apply below_drew1) | exact HB.out)⟩⟩
                      case round =>
                        clear H'
                        try clear c1
                        try clear p1
                        try clear q1
                        try clear hx1
                        try clear p2
                        try clear c3
                        try clear c4
                        try clear c5
                        try clear c5b0
                        try clear c5b1
                        try clear c6
                        try clear c7
                        try clear c7b0
                        try clear c8
                        try clear c8b0
                        try clear c9
                        try clear c9b0
                        try clear c10
                        try clear c10b0
                        try clear c10b1
                        try clear hx113_0
                        try clear p113
                        try clear p2
                        try clear q113
                        obtain ⟨x7_3, rfl, HA, HK3, HB⟩ := hrel
                        cases gk with
                        | zero => exact absurd HA.out (by simp [laws_FnNmInterfaceParts.l1])
                        | succ k3 =>
                          have H := HA.out
                          clear HA
                          simp only [laws_FnNmInterfaceParts.l1] at H
                          by_cases c11 : x7_3 < ((rdOf ByteArray.empty l0 x23_2).size : Int)
                          · rw [if_pos c11] at H
                            have c11b0 : decide (x7_3 < ((rdOf ByteArray.empty l0 x23_2).size : Int)) = true := decide_eq_true c11
                            clear c11
                            by_cases c12 : 0 ≤ x7_3
                            · rw [if_pos c12] at H
                              have c12b0 : decide (0 ≤ x7_3) = true := decide_eq_true c12
                              clear c12
                              by_cases c14 : (bt (rdOf ByteArray.empty l0 x23_2) x7_3) = 46
                              · rw [if_pos c14] at H
                                have c14b0 : ((bt (rdOf ByteArray.empty l0 x23_2) x7_3) == 46) = true := beq_iff_eq.mpr c14
                                have c14b1 : ((bt (rdOf ByteArray.empty l0 x23_2) x7_3) != 46) = false := bne_eq_false_iff_eq.mpr c14
                                clear c14
                                obtain rfl := Option.some.inj H
                                have p13 : 0 ≤ (x7_3 : Int) := of_decide_eq_true (by first | (with_reducible assumption) | assumption)
                                have q13 : x7_3 < ((rdOf ByteArray.empty l0 x23_2).size : Int) := of_decide_eq_true (by first | (with_reducible assumption) | assumption)
                                have hx13 := bt_at (rdOf ByteArray.empty l0 x23_2) x7_3
                                replace p13 := eq_true p13
                                replace q13 := eq_true q13
                                go_wp2
                                go_ret
                                exact ⟨by first | rfl | (simp [errW_none, errW_some] <;> rfl) | (simp [*, errW_none, errW_some] <;> rfl), by repeat (first | (with_reducible first | exact HB.out | apply below_alloc | apply pw_below_drewN | apply below_drew1) | exact HB.out)⟩
                              · rw [if_neg c14] at H
                                have c14b0 : ((bt (rdOf ByteArray.empty l0 x23_2) x7_3) == 46) = false := beq_eq_false_iff_ne.mpr c14
                                have c14b1 : ((bt (rdOf ByteArray.empty l0 x23_2) x7_3) != 46) = true := bne_iff_ne.mpr c14
                                have H' := Aside0.mk H
                                clear H
                                have p13 : 0 ≤ (x7_3 : Int) := of_decide_eq_true (by first | (with_reducible assumption) | assumption)
                                have q13 : x7_3 < ((rdOf ByteArray.empty l0 x23_2).size : Int) := of_decide_eq_true (by first | (with_reducible assumption) | assumption)
                                have hx13 := bt_at (rdOf ByteArray.empty l0 x23_2) x7_3
                                replace p13 := eq_true p13
                                replace q13 := eq_true q13
                                go_wp2
                                go_roundg k3
                                case measure => have := HJ3.out; have := HK2.out; have := HK3.out; omega
                                case rel => exact ⟨(wrap64 (x7_3 + 1)), (by first | rfl | (simp; done) | (simp [*]; done)), H', ⟨by have := HJ3.out; have := HK2.out; have := HK3.out; omega⟩, ⟨by repeat (first | (with_reducible first | exact HB.out | apply below_alloc | apply pw_below_drewN | apply below_drew1) | exact HB.out)⟩⟩
                            · rw [if_neg c12] at H
                              exact absurd H (by simp)
                          · rw [if_neg c11] at H
                            have c11b0 : decide (x7_3 < ((rdOf ByteArray.empty l0 x23_2).size : Int)) = false := decide_eq_false c11
                            clear c11
                            by_cases c15 : x23_2 > 0
                            · rw [if_pos c15] at H
                              have c15b0 : decide (0 < x23_2) = true := decide_eq_true c15
                              clear c15
                              by_cases c16 : x3_2.size + 1 ≤ 9223372036854775807
                              · rw [if_pos c16] at H
                                have c16b0 := eq_true c16
                                have c16b1 : decide (x3_2.size + 1 ≤ 9223372036854775807) = true := decide_eq_true c16
                                try have c16b2 : (9223372036854775807 < x3_2.size + 1) = False := eq_false (Nat.not_lt.2 c16)
                                try (have c16b3 := c16b2; simp only [ByteArray.size_append] at c16b3)
                                try (have c16b4 := c16b3; simp only [show ∀ c : UInt8, (ByteArray.mk #[c]).size = 1 from fun _ => rfl] at c16b4)
                                by_cases c17 : (x3_2 ++ (⟨#[46]⟩ : ByteArray)).size + (rdOf ByteArray.empty l0 x23_2).size ≤ 9223372036854775807
                                · rw [if_pos c17] at H
                                  have c17b0 := eq_true c17
                                  have c17b1 : decide ((x3_2 ++ (⟨#[46]⟩ : ByteArray)).size + (rdOf ByteArray.empty l0 x23_2).size ≤ 9223372036854775807) = true := decide_eq_true c17
                                  try have c17b2 : (9223372036854775807 < (x3_2 ++ (⟨#[46]⟩ : ByteArray)).size + (rdOf ByteArray.empty l0 x23_2).size) = False := eq_false (Nat.not_lt.2 c17)
                                  try (have c17b3 := c17b2; simp only [ByteArray.size_append] at c17b3)
                                  try (have c17b4 := c17b3; simp only [show ∀ c : UInt8, (ByteArray.mk #[c]).size = 1 from fun _ => rfl] at c17b4)
                                  have H' := Aside0.mk H
                                  clear H
                                  go_wp2
                                  go_roundg k3
                                  case measure => have := HJ3.out; have := HK2.out; have := HK3.out; omega
                                  case rel => exact ⟨((x3_2 ++ (⟨#[46]⟩ : ByteArray)) ++ (rdOf ByteArray.empty l0 x23_2)), (wrap64 (x23_2 + 1)), (by first | rfl | (simp; done) | (simp [*]; done)), (by first | rfl | (simp; done) | (simp [*]; done)), H', ⟨by have := HJ3.out; have := HK2.out; have := HK3.out; omega⟩, ⟨by repeat (first | (with_reducible first | exact HB.out | apply below_alloc | apply pw_below_drewN | apply below_drew1) | exact HB.out)⟩⟩
                                · rw [if_neg c17] at H
                                  exact absurd H (by simp)
                              · rw [if_neg c16] at H
                                exact absurd H (by simp)
                            · rw [if_neg c15] at H
                              have c15b0 : decide (0 < x23_2) = false := decide_eq_false c15
                              clear c15
                              by_cases c18 : x3_2.size + (rdOf ByteArray.empty l0 x23_2).size ≤ 9223372036854775807
                              · rw [if_pos c18] at H
                                have c18b0 := eq_true c18
                                have c18b1 : decide (x3_2.size + (rdOf ByteArray.empty l0 x23_2).size ≤ 9223372036854775807) = true := decide_eq_true c18
                                try have c18b2 : (9223372036854775807 < x3_2.size + (rdOf ByteArray.empty l0 x23_2).size) = False := eq_false (Nat.not_lt.2 c18)
                                try (have c18b3 := c18b2; simp only [ByteArray.size_append] at c18b3)
                                try (have c18b4 := c18b3; simp only [show ∀ c : UInt8, (ByteArray.mk #[c]).size = 1 from fun _ => rfl] at c18b4)
                                have H' := Aside0.mk H
                                clear H
                                go_wp2
                                go_roundg k3
                                case measure => have := HJ3.out; have := HK2.out; have := HK3.out; omega
                                case rel => exact ⟨(x3_2 ++ (rdOf ByteArray.empty l0 x23_2)), (wrap64 (x23_2 + 1)), (by first | rfl | (simp; done) | (simp [*]; done)), (by first | rfl | (simp; done) | (simp [*]; done)), H', ⟨by have := HJ3.out; have := HK2.out; have := HK3.out; omega⟩, ⟨by repeat (first | (with_reducible first | exact HB.out | apply below_alloc | apply pw_below_drewN | apply below_drew1) | exact HB.out)⟩⟩
                              · rw [if_neg c18] at H
                                exact absurd H (by simp)
                  · rw [if_neg c9] at H
                    exact absurd H (by simp)
                · rw [if_neg c8] at H
                  exact absurd H (by simp)
              · rw [if_neg c7] at H
                have c7b0 : decide (x23_2 < (l0.length : Int)) = false := decide_eq_false c7
                clear c7
                have H' := Aside0.mk H
                clear H
                go_wp2
                go_loopg [4, 51] k2 (fun kq v4 v51 w' => ∃ (x4_3 : Bool) (x51_3 : Int), v4 = .bool x4_3 ∧ v51 = .int .i64 x51_3 ∧ Aside0 (laws_FnNmInterfaceParts.l2 kq x3_2 x4_3 l0 (l0.length : Int) x51_3 = some r) ∧ Aside0 (kq ≤ k2) ∧ Aside0 (Below w.heap.size w w'))
                case atStart => exact ⟨(true), (0), (by first | rfl | (simp; done) | (simp [*]; done)), (by first | rfl | (simp; done) | (simp [*]; done)), H', ⟨Nat.le_refl _⟩, ⟨by repeat (first | (with_reducible first | exact HB.out | apply below_alloc | apply pw_below_drewN | apply below_drew1) | exact HB.out)⟩⟩
                case round =>
                  clear H'
                  try clear c1
                  try clear p1
                  try clear q1
                  try clear hx1
                  try clear p2
                  try clear c3
                  try clear c4
                  try clear c5
                  try clear c5b0
                  try clear c5b1
                  try clear c6
                  try clear p6
                  try clear c7
                  try clear c7b0
                  try clear c8
                  try clear c8b0
                  try clear c9
                  try clear c9b0
                  try clear c10
                  try clear c10b0
                  try clear c10b1
                  try clear c11
                  try clear c11b0
                  try clear p11
                  try clear q11
                  try clear hx11
                  try clear c12
                  try clear c12b0
                  try clear p13
                  try clear q13
                  try clear hx13
                  try clear c14
                  try clear c14b0
                  try clear c14b1
                  try clear c15
                  try clear c15b0
                  try clear c16
                  try clear c16b0
                  try clear c16b1
                  try clear c16b2
                  try clear c17
                  try clear c17b0
                  try clear c17b1
                  try clear c17b2
                  try clear c18
                  try clear c18b0
                  try clear c18b1
                  try clear c18b2
                  try clear hx113_0
                  try clear p1
                  try clear p113
                  try clear p13
                  try clear p2
                  try clear q1
                  try clear q113
                  try clear q13
                  obtain ⟨x4_3, x51_3, rfl, rfl, HA, HK3, HB⟩ := hrel
                  cases gk with
                  | zero => exact absurd HA.out (by simp [laws_FnNmInterfaceParts.l2])
                  | succ k3 =>
                    have H := HA.out
                    clear HA
                    simp only [laws_FnNmInterfaceParts.l2] at H
                    by_cases c19 : x51_3 < (l0.length : Int)
                    · rw [if_pos c19] at H
                      have c19b0 : decide (x51_3 < (l0.length : Int)) = true := decide_eq_true c19
                      clear c19
                      by_cases c20 : 0 ≤ x51_3
                      · rw [if_pos c20] at H
                        have c20b0 : decide (0 ≤ x51_3) = true := decide_eq_true c20
                        clear c20
                        by_cases c21 : x51_3 < (l0.length : Int)
                        · rw [if_pos c21] at H
                          have c21b0 : decide (x51_3 < (l0.length : Int)) = true := decide_eq_true c21
                          clear c21
                          by_cases c22 : x4_3 = true
                          · subst c22
                            have H1 : ((impl_NmMember.f k3 (rdOf ByteArray.empty l0 x51_3)).bind fun t115 => (laws_FnNmInterfaceParts.l2 k3 x3_2 t115 l0 (l0.length : Int) (wrap64 (x51_3 + 1)))) = some r := by rw [if_pos rfl] at H; exact H
                            clear H
                            have H := H1
                            clear H1
                            replace H := Option.bind_eq_some_iff.mp H
                            obtain ⟨t115, A230, H⟩ := H
                            replace H : (laws_FnNmInterfaceParts.l2 k3 x3_2 t115 l0 (l0.length : Int) (wrap64 (x51_3 + 1))) = some r := H
                            have A23 := Aside0.mk A230
                            clear A230
                            have H' := Aside0.mk H
                            clear H
                            have p114 : 0 ≤ (x51_3 : Int) := of_decide_eq_true (by first | (with_reducible assumption) | assumption)
                            have q114 : x51_3 < (l0.length : Int) := of_decide_eq_true (by first | (with_reducible assumption) | assumption)
                            obtain ⟨ad114, e114, hx114_0⟩ := Kd.at_string HR0.out x51_3 p114 q114
                            cases e114
                            replace hx114_0 := (HB.out.cell (World.block_lt_of_cell? w _ hx114_0)).trans hx114_0
                            replace p114 := eq_true p114
                            replace q114 := eq_true q114
                            go_wp2_with (first | (go_at_call 9; (with_reducible refine (impl_NmMember.calls k3 (rdOf ByteArray.empty l0 x51_3) t115 _ A23.out).mono ?_); rintro e w24 ⟨rfl, hb⟩; have n0_ := Aside0.mk (below_step (by repeat (first | (with_reducible first | exact HB.out | apply below_alloc | apply pw_below_drewN | apply below_drew1) | exact HB.out)) hb); clear HB; have HB := n0_; clear n0_; (try clear hb); (try clear hb2); (try clear hk); (try clear hi)))
                            go_roundg k3
                            case measure => have := HJ3.out; have := HK2.out; have := HK3.out; omega
                            case rel => exact ⟨(t115), (wrap64 (x51_3 + 1)), (by first | rfl | (simp; done) | (simp [*]; done)), (by first | rfl | (simp; done) | (simp [*]; done)), H', ⟨by have := HJ3.out; have := HK2.out; have := HK3.out; omega⟩, ⟨by repeat (first | (with_reducible first | exact HB.out | apply below_alloc | apply pw_below_drewN | apply below_drew1) | exact HB.out)⟩⟩
                          · replace c22 := Bool.eq_false_iff.mpr c22
                            subst c22
                            have H1 : (laws_FnNmInterfaceParts.l2 k3 x3_2 false l0 (l0.length : Int) (wrap64 (x51_3 + 1))) = some r := by rw [if_neg (show ¬ (false = true) by decide)] at H; exact H
                            clear H
                            have H := H1
                            clear H1
                            have H' := Aside0.mk H
                            clear H
                            have p114 : 0 ≤ (x51_3 : Int) := of_decide_eq_true (by first | (with_reducible assumption) | assumption)
                            have q114 : x51_3 < (l0.length : Int) := of_decide_eq_true (by first | (with_reducible assumption) | assumption)
                            obtain ⟨ad114, e114, hx114_0⟩ := Kd.at_string HR0.out x51_3 p114 q114
                            cases e114
                            replace hx114_0 := (HB.out.cell (World.block_lt_of_cell? w _ hx114_0)).trans hx114_0
                            replace p114 := eq_true p114
                            replace q114 := eq_true q114
                            go_wp2
                            go_roundg k3
                            case measure => have := HJ3.out; have := HK2.out; have := HK3.out; omega
                            case rel => exact ⟨(false), (wrap64 (x51_3 + 1)), (by first | rfl | (simp; done) | (simp [*]; done)), (by first | rfl | (simp; done) | (simp [*]; done)), H', ⟨by have := HJ3.out; have := HK2.out; have := HK3.out; omega⟩, ⟨by repeat (first | (with_reducible first | exact HB.out | apply below_alloc | apply pw_below_drewN | apply below_drew1) | exact HB.out)⟩⟩
                        · rw [if_neg c21] at H
                          exact absurd H (by simp)
                      · rw [if_neg c20] at H
                        exact absurd H (by simp)
                    · rw [if_neg c19] at H
                      have c19b0 : decide (x51_3 < (l0.length : Int)) = false := decide_eq_false c19
                      clear c19
                      replace H := Option.bind_eq_some_iff.mp H
                      obtain ⟨t116, A250, H⟩ := H
                      replace H : (if x4_3 = true then (if (t116 == (decide ((x3_2.size : Int) ≤ 255))) = true then ((impl_NmMember.f k3 (⟨#[97]⟩ : ByteArray)).bind fun t117 => (some t117)) else (some false)) else (if (t116 == false) = true then ((impl_NmMember.f k3 (⟨#[97]⟩ : ByteArray)).bind fun t118 => (some t118)) else (some false))) = some r := H
                      have A25 := Aside0.mk A250
                      clear A250
                      by_cases c26 : x4_3 = true
                      · subst c26
                        have H1 : (if (t116 == (decide ((x3_2.size : Int) ≤ 255))) = true then ((impl_NmMember.f k3 (⟨#[97]⟩ : ByteArray)).bind fun t117 => (some t117)) else (some false)) = some r := by rw [if_pos rfl] at H; exact H
                        clear H
                        have H := H1
                        clear H1
                        by_cases c27 : (t116 == (decide ((x3_2.size : Int) ≤ 255))) = true
                        · rw [if_pos c27] at H
                          have c27b0 : (t116 == (decide ((x3_2.size : Int) ≤ 255))) = true := c27
                          (try (have c27b1 : decide (t116 = (decide ((x3_2.size : Int) ≤ 255))) = true := by simpa using c27))
                          (try (have c27b2 : (t116 == (decide ((x3_2.size : Int) ≤ 255))) = true := by simpa using c27))
                          clear c27
                          replace H := Option.bind_eq_some_iff.mp H
                          obtain ⟨t117, A280, H⟩ := H
                          replace H : (some t117) = some r := H
                          have A28 := Aside0.mk A280
                          clear A280
                          obtain rfl := Option.some.inj H
                          go_wp2_with (first | ((with_reducible refine gate_callee (f := 10) rfl ?_); refine goesL_ (some 62) rfl rfl Try.func10 (by kernel_rfl) rfl #[.string x3_2] rfl (by (try simp only [List.map_toArray, List.map_cons, List.map_nil]); first | done | rfl | (simp only [List.length_drop, List.length_take]; rfl)) ?_; (with_reducible refine (impl_NmInterface.calls k3 x3_2 t116 _ A25.out).mono ?_); rintro e w29 ⟨rfl, hb⟩; refine ⟨_, rfl, ?_⟩; have n0_ := Aside0.mk (below_step (by repeat (first | (with_reducible first | exact HB.out | apply below_alloc | apply pw_below_drewN | apply below_drew1) | exact HB.out)) hb); clear HB; have HB := n0_; clear n0_; (try clear hb); (try clear hb2); (try clear hk); (try clear hi)) | (go_at_call 9; (with_reducible refine (impl_NmMember.calls k3 (⟨#[97]⟩ : ByteArray) t117 _ A28.out).mono ?_); rintro e w30 ⟨rfl, hb⟩; have n0_ := Aside0.mk (below_step (by repeat (first | (with_reducible first | exact HB.out | apply below_alloc | apply pw_below_drewN | apply below_drew1) | exact HB.out)) hb); clear HB; have HB := n0_; clear n0_; (try clear hb); (try clear hb2); (try clear hk); (try clear hi)))
                          go_ret
                          exact ⟨by first | rfl | (simp [errW_none, errW_some] <;> rfl) | (simp [*, errW_none, errW_some] <;> rfl), by repeat (first | (with_reducible first | exact HB.out | apply below_alloc | apply pw_below_drewN | apply below_drew1) | exact HB.out)⟩
                        · rw [if_neg c27] at H
                          have c27b0 : (t116 == (decide ((x3_2.size : Int) ≤ 255))) = false := by simpa using c27
                          (try (have c27b1 : decide (t116 = (decide ((x3_2.size : Int) ≤ 255))) = false := by simpa using c27))
                          (try (have c27b2 : (t116 == (decide ((x3_2.size : Int) ≤ 255))) = false := by simpa using c27))
                          (try (have c27b3 : ¬ (t116 = (decide ((x3_2.size : Int) ≤ 255))) := by simpa using c27))
                          clear c27
                          obtain rfl := Option.some.inj H
                          go_wp2_with (first | ((with_reducible refine gate_callee (f := 10) rfl ?_); refine goesL_ (some 62) rfl rfl Try.func10 (by kernel_rfl) rfl #[.string x3_2] rfl (by (try simp only [List.map_toArray, List.map_cons, List.map_nil]); first | done | rfl | (simp only [List.length_drop, List.length_take]; rfl)) ?_; (with_reducible refine (impl_NmInterface.calls k3 x3_2 t116 _ A25.out).mono ?_); rintro e w31 ⟨rfl, hb⟩; refine ⟨_, rfl, ?_⟩; have n0_ := Aside0.mk (below_step (by repeat (first | (with_reducible first | exact HB.out | apply below_alloc | apply pw_below_drewN | apply below_drew1) | exact HB.out)) hb); clear HB; have HB := n0_; clear n0_; (try clear hb); (try clear hb2); (try clear hk); (try clear hi)))
                          go_ret
                          exact ⟨by first | rfl | (simp [errW_none, errW_some] <;> rfl) | (simp [*, errW_none, errW_some] <;> rfl), by repeat (first | (with_reducible first | exact HB.out | apply below_alloc | apply pw_below_drewN | apply below_drew1) | exact HB.out)⟩
                      · replace c26 := Bool.eq_false_iff.mpr c26
                        subst c26
                        have H1 : (if (t116 == false) = true then ((impl_NmMember.f k3 (⟨#[97]⟩ : ByteArray)).bind fun t118 => (some t118)) else (some false)) = some r := by rw [if_neg (show ¬ (false = true) by decide)] at H; exact H
                        clear H
                        have H := H1
                        clear H1
                        by_cases c32 : (t116 == false) = true
                        · rw [if_pos c32] at H
                          have c32b0 : (t116 == false) = true := c32
                          (try (have c32b1 : decide (t116 = false) = true := by simpa using c32))
                          (try (have c32b2 : (t116 == false) = true := by simpa using c32))
                          clear c32
                          replace H := Option.bind_eq_some_iff.mp H
                          obtain ⟨t118, A330, H⟩ := H
                          replace H : (some t118) = some r := H
                          have A33 := Aside0.mk A330
                          clear A330
                          obtain rfl := Option.some.inj H
                          go_wp2_with (first | ((with_reducible refine gate_callee (f := 10) rfl ?_); refine goesL_ (some 62) rfl rfl Try.func10 (by kernel_rfl) rfl #[.string x3_2] rfl (by (try simp only [List.map_toArray, List.map_cons, List.map_nil]); first | done | rfl | (simp only [List.length_drop, List.length_take]; rfl)) ?_; (with_reducible refine (impl_NmInterface.calls k3 x3_2 t116 _ A25.out).mono ?_); rintro e w34 ⟨rfl, hb⟩; refine ⟨_, rfl, ?_⟩; have n0_ := Aside0.mk (below_step (by repeat (first | (with_reducible first | exact HB.out | apply below_alloc | apply pw_below_drewN | apply below_drew1) | exact HB.out)) hb); clear HB; have HB := n0_; clear n0_; (try clear hb); (try clear hb2); (try clear hk); (try clear hi)) | (go_at_call 9; (with_reducible refine (impl_NmMember.calls k3 (⟨#[97]⟩ : ByteArray) t118 _ A33.out).mono ?_); rintro e w35 ⟨rfl, hb⟩; have n0_ := Aside0.mk (below_step (by repeat (first | (with_reducible first | exact HB.out | apply below_alloc | apply pw_below_drewN | apply below_drew1) | exact HB.out)) hb); clear HB; have HB := n0_; clear n0_; (try clear hb); (try clear hb2); (try clear hk); (try clear hi)))
                          go_ret
                          exact ⟨by first | rfl | (simp [errW_none, errW_some] <;> rfl) | (simp [*, errW_none, errW_some] <;> rfl), by repeat (first | (with_reducible first | exact HB.out | apply below_alloc | apply pw_below_drewN | apply below_drew1) | exact HB.out)⟩
                        · rw [if_neg c32] at H
                          have c32b0 : (t116 == false) = false := by simpa using c32
                          (try (have c32b1 : decide (t116 = false) = false := by simpa using c32))
                          (try (have c32b2 : (t116 == false) = false := by simpa using c32))
                          (try (have c32b3 : ¬ (t116 = false) := by simpa using c32))
                          clear c32
                          obtain rfl := Option.some.inj H
                          go_wp2_with (first | ((with_reducible refine gate_callee (f := 10) rfl ?_); refine goesL_ (some 62) rfl rfl Try.func10 (by kernel_rfl) rfl #[.string x3_2] rfl (by (try simp only [List.map_toArray, List.map_cons, List.map_nil]); first | done | rfl | (simp only [List.length_drop, List.length_take]; rfl)) ?_; (with_reducible refine (impl_NmInterface.calls k3 x3_2 t116 _ A25.out).mono ?_); rintro e w36 ⟨rfl, hb⟩; refine ⟨_, rfl, ?_⟩; have n0_ := Aside0.mk (below_step (by repeat (first | (with_reducible first | exact HB.out | apply below_alloc | apply pw_below_drewN | apply below_drew1) | exact HB.out)) hb); clear HB; have HB := n0_; clear n0_; (try clear hb); (try clear hb2); (try clear hk); (try clear hi)))
                          go_ret
                          exact ⟨by first | rfl | (simp [errW_none, errW_some] <;> rfl) | (simp [*, errW_none, errW_some] <;> rfl), by repeat (first | (with_reducible first | exact HB.out | apply below_alloc | apply pw_below_drewN | apply below_drew1) | exact HB.out)⟩
  · replace c3 := Bool.eq_false_iff.mpr c3
    subst c3
    have H1 : (some true) = some r := by rw [if_neg (show ¬ (false = true) by decide)] at H; exact H
    clear H
    have H := H1
    clear H1
    obtain rfl := Option.some.inj H
    go_enter Try.func4, Try.ntmps4
    go_wp2_with (first | ((with_reducible refine gate_callee (f := 8) rfl ?_); refine goesL_ (some 11) rfl rfl Try.func8 (by kernel_rfl) rfl #[.slice A0 l0.length c0] rfl (by (try simp only [List.map_toArray, List.map_cons, List.map_nil]); first | done | rfl | (simp only [List.length_drop, List.length_take]; rfl)) ?_; (with_reducible refine (laws_zzFits5.calls k _ _ l0 false _ ?side1 ?side2 A2.out).mono ?_); (case side1 => repeat (first | exact HR0.out | (with_reducible refine Kd.C_alloc ?_ _) | (with_reducible refine Kd.C_drewN ?_ _) | (with_reducible refine Kd.C_drew ?_))); (case side2 => exact HC0.out); rintro e w' ⟨rfl, ⟨nd, rfl⟩⟩; refine ⟨_, rfl, ?_⟩))
    go_ret
    exact ⟨by first | rfl | (simp [errW_none, errW_some] <;> rfl) | (simp [*, errW_none, errW_some] <;> rfl), by repeat (first | (with_reducible first | exact HB.out | apply below_alloc | apply pw_below_drewN | apply below_drew1) | exact HB.out)⟩

end Go.Proofs.Ytheopfecoakhnaa.Q
