-- The program's reader of address values: the walk of a function that hands back an error; written by this session out of its own print of the function with a bool in the error's place.
import Derived.Test.YtpndgbiaomglpaaExt1
import Derived.Test.YtpndgbiaomglpaaL0
namespace Go.Proofs.Ytpndgbiaomglpaa.Ext
open Go.RowKit Go.Proofs.YtpndgbiaomglpaaW.PrintWords Go.Proofs.YtpndgbiaomglpaaW.PrintLast Go.Proofs.YtpndgbiaomglpaaW.PrintMore
attribute [local go_sem] max2_int min2_int max_two min_two max_three min_three max_four min_four   -- for this text's walks alone
set_option linter.unusedVariables false
set_option linter.unusedSimpArgs false

-- NOT PRINTED: function 38 (errors_New)

theorem info5 : (Try.prog.info? 5).map (fun i => (i.zero, i.size, i.bytes)) = some (some (.int .u8 0), 1, 1) := by kernel_rfl
/-- What is told of an error: is it nil? -/
def EB (v : Value) (b : Bool) : Prop := match b with | true => v = .nilIface | false => ∃ t u, v = .iface t u
theorem EB_nil : EB .nilIface true := rfl
theorem EB_err (t : TypeId) (u : Value) : EB (.iface t u) false := ⟨t, u, rfl⟩

/-! ### errors.New -/
theorem errors_New.calls (a0 : ByteArray) (w : World) :
    Calls Try.prog 38 #[.string a0] w fun e w' => e = .returned (.iface 69 (.pointer (some ⟨w.heap.size, 0, none⟩))) ∧ w' = w.alloc (.cells #[.string a0] 71) := by
  go_enter Try.func38, Try.ntmps38
  go_wp2
  go_ret
  exact ⟨rfl, rfl⟩

/-! ### dbus_zzHexDigit: function 39 -/
mutual
def dbus_zzHexDigit.j0 : Nat → Int → Bool → Option (Int × Bool)
  | 0, _, _ => none
  | k + 1, x0, x4 => if x4 = true then (some ((x0 - 48) % 256, true)) else (if 97 ≤ x0 then (dbus_zzHexDigit.j1 k x0 (decide (x0 ≤ 102))) else (dbus_zzHexDigit.j1 k x0 false))
def dbus_zzHexDigit.j1 : Nat → Int → Bool → Option (Int × Bool)
  | 0, _, _ => none
  | k + 1, x0, x13 => if x13 = true then (some ((((x0 - 97) % 256) + 10) % 256, true)) else (if 65 ≤ x0 then (if x0 ≤ 70 then (some ((((x0 - 65) % 256) + 10) % 256, true)) else (some (0, false))) else (some (0, false)))
end
def dbus_zzHexDigit.f (k : Nat) (a0 : Int) : Option (Int × Bool) := if 48 ≤ a0 then (dbus_zzHexDigit.j0 k a0 (decide (a0 ≤ 57))) else (dbus_zzHexDigit.j0 k a0 false)
theorem dbus_zzHexDigit.mono_l : ∀ k, (∀ y0 y1, LeO (dbus_zzHexDigit.j0 k y0 y1) (dbus_zzHexDigit.j0 (k + 1) y0 y1)) ∧ (∀ y0 y1, LeO (dbus_zzHexDigit.j1 k y0 y1) (dbus_zzHexDigit.j1 (k + 1) y0 y1))
  | 0 => ⟨fun _ _ r h => by simp [dbus_zzHexDigit.j0] at h, fun _ _ r h => by simp [dbus_zzHexDigit.j1] at h⟩
  | k + 1 => by
    obtain ⟨ih0, ih1⟩ := dbus_zzHexDigit.mono_l k
    refine ⟨?_, ?_⟩
    · intro y0 y1
      unfold dbus_zzHexDigit.j0
      repeat' first
      | (with_reducible exact ih0 _ _)
      | (with_reducible exact ih1 _ _)
      | (with_reducible exact LeO.refl _)
      | (with_reducible exact LeO.none _)
      | (with_reducible refine LeO.ite ?_ ?_)
      | (with_reducible refine LeO.bind ?_ (fun _ => ?_))
      | exact ih0 _ _
      | exact ih1 _ _
      | exact LeO.none _
      | refine LeO.ite ?_ ?_
      | refine LeO.bind ?_ (fun _ => ?_)
    · intro y0 y1
      unfold dbus_zzHexDigit.j1
      repeat' first
      | (with_reducible exact ih0 _ _)
      | (with_reducible exact ih1 _ _)
      | (with_reducible exact LeO.refl _)
      | (with_reducible exact LeO.none _)
      | (with_reducible refine LeO.ite ?_ ?_)
      | (with_reducible refine LeO.bind ?_ (fun _ => ?_))
      | exact ih0 _ _
      | exact ih1 _ _
      | exact LeO.none _
      | refine LeO.ite ?_ ?_
      | refine LeO.bind ?_ (fun _ => ?_)
theorem dbus_zzHexDigit.mono : ∀ a0 k, LeO (dbus_zzHexDigit.f k a0) (dbus_zzHexDigit.f (k + 1) a0) := by
  intro a0 k
  obtain ⟨ih0, ih1⟩ := dbus_zzHexDigit.mono_l k
  unfold dbus_zzHexDigit.f
  repeat' first
      | (with_reducible exact ih0 _ _)
      | (with_reducible exact ih1 _ _)
      | (with_reducible exact LeO.refl _)
      | (with_reducible exact LeO.none _)
      | (with_reducible refine LeO.ite ?_ ?_)
      | (with_reducible refine LeO.bind ?_ (fun _ => ?_))
      | exact ih0 _ _
      | exact ih1 _ _
      | exact LeO.none _
      | refine LeO.ite ?_ ?_
      | refine LeO.bind ?_ (fun _ => ?_)
set_option maxHeartbeats 8000000 in
set_option maxRecDepth 100000 in
theorem dbus_zzHexDigit.calls (k : Nat) (a0 : Int) (r1 : Int) (r2 : Bool) (w : World) (h : dbus_zzHexDigit.f k a0 = some (r1, r2)) :
    Calls Try.prog 39 #[.int .u8 a0] w fun e w' => e = .returned (.tuple #[.int .u8 r1, .bool r2]) ∧ Drawn0 w w' := by
  have H : (if 48 ≤ a0 then (dbus_zzHexDigit.j0 k a0 (decide (a0 ≤ 57))) else (dbus_zzHexDigit.j0 k a0 false)) = some (r1, r2) := h
  clear h
  have HC2 := Aside0.mk H
  clear H
  go_enter Try.func39, Try.ntmps39
  go_upto_region 1 with (fail)
  go_cut [4] (fun v4 wc => ∃ (kq : Nat) (x4_1 : Bool), v4 = .bool x4_1 ∧ Aside0 (dbus_zzHexDigit.j0 kq a0 x4_1 = some (r1, r2)) ∧ Aside0 (kq ≤ k) ∧ Drawn0 w wc)
  case first =>
    have H := HC2.out
    clear HC2
    by_cases c3 : 48 ≤ a0
    · rw [if_pos c3] at H
      have c3b0 : decide (48 ≤ a0) = true := decide_eq_true c3
      clear c3
      (first | rw [c3b0] | (simp only [i64_w, i32_w]; rw [c3b0]) | skip)
      have H' := Aside0.mk H
      clear H
      go_wp2
      go_meet
      case rel => exact ⟨_, (decide (a0 ≤ 57)), (by first | rfl | (simp; done) | (simp [*]; done)), H', ⟨by first | omega | exact Nat.le_refl _⟩, by repeat (first | exact Drawn0.refl _ | apply Drawn0.step)⟩
    · rw [if_neg c3] at H
      have c3b0 : decide (48 ≤ a0) = false := decide_eq_false c3
      clear c3
      (first | rw [c3b0] | (simp only [i64_w, i32_w]; rw [c3b0]) | skip)
      have H' := Aside0.mk H
      clear H
      go_wp2
      go_meet
      case rel => exact ⟨_, (false), (by first | rfl | (simp; done) | (simp [*]; done)), H', ⟨by first | omega | exact Nat.le_refl _⟩, by repeat (first | exact Drawn0.refl _ | apply Drawn0.step)⟩
  case rest =>
    clear HC2
    try clear p2
    try clear c3
    try clear c3b0
    obtain ⟨kq, x4_1, rfl, HA, HJ1, ⟨mc1, rfl⟩⟩ := hcut
    cases kq with
    | zero => exact absurd HA.out (by simp [dbus_zzHexDigit.j0])
    | succ kj1 =>
      have H := HA.out
      clear HA
      simp only [dbus_zzHexDigit.j0] at H
      by_cases c4 : x4_1 = true
      · subst c4
        have H1 : (some ((a0 - 48) % 256, true)) = some (r1, r2) := by rw [if_pos rfl] at H; exact H
        clear H
        have H := H1
        clear H1
        simp only [Option.some.injEq, Prod.mk.injEq] at H
        obtain ⟨rfl, rfl⟩ := H
        go_wp2
        go_ret2
        exact ⟨by first | rfl | (simp; done) | (simp [*]; done), by repeat (first | exact Drawn0.refl _ | apply Drawn0.step)⟩
      · replace c4 := Bool.eq_false_iff.mpr c4
        subst c4
        have H1 : (if 97 ≤ a0 then (dbus_zzHexDigit.j1 kj1 a0 (decide (a0 ≤ 102))) else (dbus_zzHexDigit.j1 kj1 a0 false)) = some (r1, r2) := by rw [if_neg (show ¬ (false = true) by decide)] at H; exact H
        clear H
        have H := H1
        clear H1
        have HC5 := Aside0.mk H
        clear H
        go_upto_region 3 with (fail)
        go_cut [13] (fun v13 wc => ∃ (kq : Nat) (x13_4 : Bool), v13 = .bool x13_4 ∧ Aside0 (dbus_zzHexDigit.j1 kq a0 x13_4 = some (r1, r2)) ∧ Aside0 (kq ≤ kj1) ∧ Drawn0 w wc)
        case first =>
          have H := HC5.out
          clear HC5
          by_cases c6 : 97 ≤ a0
          · rw [if_pos c6] at H
            have c6b0 : decide (97 ≤ a0) = true := decide_eq_true c6
            clear c6
            (first | rw [c6b0] | (simp only [i64_w, i32_w]; rw [c6b0]) | skip)
            have H' := Aside0.mk H
            clear H
            go_wp2
            go_meet
            case rel => exact ⟨_, (decide (a0 ≤ 102)), (by first | rfl | (simp; done) | (simp [*]; done)), H', ⟨by have := HJ1.out; first | omega | exact Nat.le_refl _⟩, by repeat (first | exact Drawn0.refl _ | apply Drawn0.step)⟩
          · rw [if_neg c6] at H
            have c6b0 : decide (97 ≤ a0) = false := decide_eq_false c6
            clear c6
            (first | rw [c6b0] | (simp only [i64_w, i32_w]; rw [c6b0]) | skip)
            have H' := Aside0.mk H
            clear H
            go_wp2
            go_meet
            case rel => exact ⟨_, (false), (by first | rfl | (simp; done) | (simp [*]; done)), H', ⟨by have := HJ1.out; first | omega | exact Nat.le_refl _⟩, by repeat (first | exact Drawn0.refl _ | apply Drawn0.step)⟩
        case rest =>
          clear HC5
          try clear c1
          try clear p2
          try clear c3
          try clear c3b0
          try clear c4
          try clear c6
          try clear c6b0
          try clear p2
          obtain ⟨kq, x13_4, rfl, HA, HJ4, ⟨mc4, rfl⟩⟩ := hcut
          cases kq with
          | zero => exact absurd HA.out (by simp [dbus_zzHexDigit.j1])
          | succ kj4 =>
            have H := HA.out
            clear HA
            simp only [dbus_zzHexDigit.j1] at H
            by_cases c7 : x13_4 = true
            · subst c7
              have H1 : (some ((((a0 - 97) % 256) + 10) % 256, true)) = some (r1, r2) := by rw [if_pos rfl] at H; exact H
              clear H
              have H := H1
              clear H1
              simp only [Option.some.injEq, Prod.mk.injEq] at H
              obtain ⟨rfl, rfl⟩ := H
              go_wp2
              go_ret2
              exact ⟨by first | rfl | (simp; done) | (simp [*]; done), by repeat (first | exact Drawn0.refl _ | apply Drawn0.step)⟩
            · replace c7 := Bool.eq_false_iff.mpr c7
              subst c7
              have H1 : (if 65 ≤ a0 then (if a0 ≤ 70 then (some ((((a0 - 65) % 256) + 10) % 256, true)) else (some (0, false))) else (some (0, false))) = some (r1, r2) := by rw [if_neg (show ¬ (false = true) by decide)] at H; exact H
              clear H
              have H := H1
              clear H1
              by_cases c8 : 65 ≤ a0
              · rw [if_pos c8] at H
                have c8b0 : decide (65 ≤ a0) = true := decide_eq_true c8
                clear c8
                by_cases c9 : a0 ≤ 70
                · rw [if_pos c9] at H
                  have c9b0 : decide (a0 ≤ 70) = true := decide_eq_true c9
                  clear c9
                  simp only [Option.some.injEq, Prod.mk.injEq] at H
                  obtain ⟨rfl, rfl⟩ := H
                  go_wp2
                  go_ret2
                  exact ⟨by first | rfl | (simp; done) | (simp [*]; done), by repeat (first | exact Drawn0.refl _ | apply Drawn0.step)⟩
                · rw [if_neg c9] at H
                  have c9b0 : decide (a0 ≤ 70) = false := decide_eq_false c9
                  clear c9
                  simp only [Option.some.injEq, Prod.mk.injEq] at H
                  obtain ⟨rfl, rfl⟩ := H
                  go_wp2
                  go_ret2
                  exact ⟨by first | rfl | (simp; done) | (simp [*]; done), by repeat (first | exact Drawn0.refl _ | apply Drawn0.step)⟩
              · rw [if_neg c8] at H
                have c8b0 : decide (65 ≤ a0) = false := decide_eq_false c8
                clear c8
                simp only [Option.some.injEq, Prod.mk.injEq] at H
                obtain ⟨rfl, rfl⟩ := H
                go_wp2
                go_ret2
                exact ⟨by first | rfl | (simp; done) | (simp [*]; done), by repeat (first | exact Drawn0.refl _ | apply Drawn0.step)⟩

/-! ### dbus_zzPathUnescape: function 31 -/
def dbus_zzPathUnescape.l0 : Nat → ByteArray → List Int → Int → Option (ByteArray × Bool)
  | 0, _, _, _ => none
  | k + 1, x0, x4, x5 => if x5 < (x0.size : Int) then (if 0 ≤ x5 then (if (bt x0 x5) = 37 then (if (wrap64 (x5 + 2)) ≥ (x0.size : Int) then (some ((⟨#[]⟩ : ByteArray), false)) else (if 0 ≤ (wrap64 (x5 + 1)) then (if (wrap64 (x5 + 1)) < (x0.size : Int) then ((dbus_zzHexDigit.f k (bt x0 (wrap64 (x5 + 1)))).bind fun bt105 => (if 0 ≤ (wrap64 (x5 + 2)) then (if (wrap64 (x5 + 2)) < (x0.size : Int) then ((dbus_zzHexDigit.f k (bt x0 (wrap64 (x5 + 2)))).bind fun bt107 => (if bt105.2 = true then (if bt107.2 = true then (if x4.length < 140737488355328 then (dbus_zzPathUnescape.l0 k x0 (x4 ++ [Go.bits .or .u8 ((bt105.1 * 16) % 256) bt107.1]) (wrap64 ((wrap64 (x5 + 2)) + 1))) else (none)) else (some ((⟨#[]⟩ : ByteArray), false))) else (some ((⟨#[]⟩ : ByteArray), false)))) else (none)) else (none))) else (none)) else (none))) else (if x4.length < 140737488355328 then (dbus_zzPathUnescape.l0 k x0 (x4 ++ [bt x0 x5]) (wrap64 (x5 + 1))) else (none))) else (none)) else (some (strOfNums x4, true))
def dbus_zzPathUnescape.f (k : Nat) (a0 : ByteArray) : Option (ByteArray × Bool) := dbus_zzPathUnescape.l0 k a0 ([] : List Int) 0
theorem dbus_zzPathUnescape.mono_l : ∀ k, (∀ y0 y1 y2, LeO (dbus_zzPathUnescape.l0 k y0 y1 y2) (dbus_zzPathUnescape.l0 (k + 1) y0 y1 y2))
  | 0 => fun _ _ _ r h => by simp [dbus_zzPathUnescape.l0] at h
  | k + 1 => by
    have ih0 := dbus_zzPathUnescape.mono_l k
    · intro y0 y1 y2
      unfold dbus_zzPathUnescape.l0
      repeat' first
      | (with_reducible exact ih0 _ _ _)
      | (with_reducible exact dbus_zzHexDigit.mono _ _)
      | (with_reducible exact LeO.refl _)
      | (with_reducible exact LeO.none _)
      | (with_reducible refine LeO.ite ?_ ?_)
      | (with_reducible refine LeO.bind ?_ (fun _ => ?_))
      | exact ih0 _ _ _
      | exact dbus_zzHexDigit.mono _ _
      | exact LeO.none _
      | refine LeO.ite ?_ ?_
      | refine LeO.bind ?_ (fun _ => ?_)
theorem dbus_zzPathUnescape.mono : ∀ a0 k, LeO (dbus_zzPathUnescape.f k a0) (dbus_zzPathUnescape.f (k + 1) a0) := by
  intro a0 k
  have ih0 := dbus_zzPathUnescape.mono_l k
  unfold dbus_zzPathUnescape.f
  repeat' first
      | (with_reducible exact ih0 _ _ _)
      | (with_reducible exact dbus_zzHexDigit.mono _ _)
      | (with_reducible exact LeO.refl _)
      | (with_reducible exact LeO.none _)
      | (with_reducible refine LeO.ite ?_ ?_)
      | (with_reducible refine LeO.bind ?_ (fun _ => ?_))
      | exact ih0 _ _ _
      | exact dbus_zzHexDigit.mono _ _
      | exact LeO.none _
      | refine LeO.ite ?_ ?_
      | refine LeO.bind ?_ (fun _ => ?_)
set_option maxHeartbeats 8000000 in
set_option maxRecDepth 100000 in
theorem dbus_zzPathUnescape.calls (k : Nat) (a0 : ByteArray) (r1 : ByteArray) (r2 : Bool) (w : World) (h : dbus_zzPathUnescape.f k a0 = some (r1, r2)) :
    Calls Try.prog 31 #[.string a0] w fun e w' => ∃ ev, e = .returned (.tuple #[.string r1, ev]) ∧ EB ev r2 ∧ Below w.heap.size w w' := by
  have HB := Aside0.mk (Below.refl w.heap.size w)
  have H : (dbus_zzPathUnescape.l0 k a0 ([] : List Int) 0) = some (r1, r2) := h
  clear h
  have H' := Aside0.mk H
  clear H
  go_enter Try.func31, Try.ntmps31
  go_wp2
  go_loopg [4, 5] k (fun kq v4 v5 w' => ∃ (x4_1 : List Int) (x5_1 : Int), v5 = .int .i64 x5_1 ∧ Aside0 (dbus_zzPathUnescape.l0 kq a0 x4_1 x5_1 = some (r1, r2)) ∧ Aside0 (kq ≤ k) ∧ Aside0 (Kd.R (Kd.int .u8) 5 w' w.heap.size (fun _ => True) v4 x4_1) ∧ Aside0 (Below w.heap.size w w'))
  case atStart => exact ⟨(([] : List Int)), (0), (by first | rfl | (simp; done) | (simp [*]; done)), H', ⟨Nat.le_refl _⟩, ⟨by first | exact Kd.R_nil _ _ _ _ _ | exact Kd.N_nil _ _ _ _ _ | exact Kd.V_nil _ _ _ _ _ | exact Kd.Q_nil _ _ _ _ _ | exact Kd.S_nil _ _ _ _ _⟩, ⟨by repeat (first | (with_reducible first | exact HB.out | apply below_alloc | apply pw_below_drewN | apply below_drew1) | exact HB.out)⟩⟩
  case round =>
    clear H'
    obtain ⟨x4_1, x5_1, rfl, HA, HK1, HO_4, HB⟩ := hrel
    cases gk with
    | zero => exact absurd HA.out (by simp [dbus_zzPathUnescape.l0])
    | succ k1 =>
      have H := HA.out
      clear HA
      simp only [dbus_zzPathUnescape.l0] at H
      by_cases c2 : x5_1 < (a0.size : Int)
      · rw [if_pos c2] at H
        have c2b0 : decide (x5_1 < (a0.size : Int)) = true := decide_eq_true c2
        clear c2
        by_cases c3 : 0 ≤ x5_1
        · rw [if_pos c3] at H
          have c3b0 : decide (0 ≤ x5_1) = true := decide_eq_true c3
          clear c3
          by_cases c5 : (bt a0 x5_1) = 37
          · rw [if_pos c5] at H
            have c5b0 : ((bt a0 x5_1) == 37) = true := beq_iff_eq.mpr c5
            have c5b1 : ((bt a0 x5_1) != 37) = false := bne_eq_false_iff_eq.mpr c5
            clear c5
            by_cases c6 : (wrap64 (x5_1 + 2)) ≥ (a0.size : Int)
            · rw [if_pos c6] at H
              have c6b0 : decide ((a0.size : Int) ≤ (wrap64 (x5_1 + 2))) = true := decide_eq_true c6
              clear c6
              simp only [Option.some.injEq, Prod.mk.injEq] at H
              obtain ⟨rfl, rfl⟩ := H
              have p4 : 0 ≤ (x5_1 : Int) := of_decide_eq_true (by first | (with_reducible assumption) | assumption)
              have q4 : x5_1 < (a0.size : Int) := of_decide_eq_true (by first | (with_reducible assumption) | assumption)
              have hx4 := bt_at a0 x5_1
              replace p4 := eq_true p4
              replace q4 := eq_true q4
              go_wp2_with (go_at_call 38; refine (errors_New.calls _ _).mono ?_; rintro e w' ⟨rfl, rfl⟩)
              go_ret2
              exact ⟨_, by first | rfl | (simp [errW_none, errW_some] <;> rfl) | (simp [*, errW_none, errW_some] <;> rfl), EB_err _ _, by repeat (first | (with_reducible first | exact HB.out | apply below_alloc | apply pw_below_drewN | apply below_drew1) | exact HB.out)⟩
            · rw [if_neg c6] at H
              have c6b0 : decide ((a0.size : Int) ≤ (wrap64 (x5_1 + 2))) = false := decide_eq_false c6
              clear c6
              obtain ⟨ji7, hji7⟩ : ∃ j_ : Int, (wrap64 (x5_1 + 1)) = j_ := ⟨_, rfl⟩
              replace H : (if 0 ≤ (ji7) then (if (ji7) < (a0.size : Int) then ((dbus_zzHexDigit.f k1 (bt a0 (ji7))).bind fun bt105 => (if 0 ≤ (wrap64 (x5_1 + 2)) then (if (wrap64 (x5_1 + 2)) < (a0.size : Int) then ((dbus_zzHexDigit.f k1 (bt a0 (wrap64 (x5_1 + 2)))).bind fun bt107 => (if bt105.2 = true then (if bt107.2 = true then (if x4_1.length < 140737488355328 then (dbus_zzPathUnescape.l0 k1 a0 (x4_1 ++ [Go.bits .or .u8 ((bt105.1 * 16) % 256) bt107.1]) (wrap64 ((wrap64 (x5_1 + 2)) + 1))) else (none)) else (some ((⟨#[]⟩ : ByteArray), false))) else (some ((⟨#[]⟩ : ByteArray), false)))) else (none)) else (none))) else (none)) else (none)) = some (r1, r2) := by first | (rw [hji7] at H; exact H) | (simp only [hji7] at H ⊢; exact H)
              have hji7w : (IntKind.i64.wrap (x5_1 + 1)) = ji7 := (i64_w _).trans hji7
              by_cases c8 : 0 ≤ (ji7)
              · rw [if_pos c8] at H
                have c8b0 : decide (0 ≤ (ji7)) = true := decide_eq_true c8
                clear c8
                by_cases c9 : (ji7) < (a0.size : Int)
                · rw [if_pos c9] at H
                  have c9b0 : decide ((ji7) < (a0.size : Int)) = true := decide_eq_true c9
                  clear c9
                  replace H := Option.bind_eq_some_iff.mp H
                  obtain ⟨⟨t105, t106⟩, A110, H⟩ := H
                  replace H : (if 0 ≤ (wrap64 (x5_1 + 2)) then (if (wrap64 (x5_1 + 2)) < (a0.size : Int) then ((dbus_zzHexDigit.f k1 (bt a0 (wrap64 (x5_1 + 2)))).bind fun bt107 => (if t106 = true then (if bt107.2 = true then (if x4_1.length < 140737488355328 then (dbus_zzPathUnescape.l0 k1 a0 (x4_1 ++ [Go.bits .or .u8 ((t105 * 16) % 256) bt107.1]) (wrap64 ((wrap64 (x5_1 + 2)) + 1))) else (none)) else (some ((⟨#[]⟩ : ByteArray), false))) else (some ((⟨#[]⟩ : ByteArray), false)))) else (none)) else (none)) = some (r1, r2) := H
                  have A11 := Aside0.mk A110
                  clear A110
                  obtain ⟨ji12, hji12⟩ : ∃ j_ : Int, (wrap64 (x5_1 + 2)) = j_ := ⟨_, rfl⟩
                  replace H : (if 0 ≤ (ji12) then (if (ji12) < (a0.size : Int) then ((dbus_zzHexDigit.f k1 (bt a0 (ji12))).bind fun bt107 => (if t106 = true then (if bt107.2 = true then (if x4_1.length < 140737488355328 then (dbus_zzPathUnescape.l0 k1 a0 (x4_1 ++ [Go.bits .or .u8 ((t105 * 16) % 256) bt107.1]) (wrap64 ((ji12) + 1))) else (none)) else (some ((⟨#[]⟩ : ByteArray), false))) else (some ((⟨#[]⟩ : ByteArray), false)))) else (none)) else (none)) = some (r1, r2) := by first | (rw [hji12] at H; exact H) | (simp only [hji12] at H ⊢; exact H)
                  (try rw [hji12] at c6b0)
                  (try rw [hji12] at A11)
                  have hji12w : (IntKind.i64.wrap (x5_1 + 2)) = ji12 := (i64_w _).trans hji12
                  by_cases c13 : 0 ≤ (ji12)
                  · rw [if_pos c13] at H
                    have c13b0 : decide (0 ≤ (ji12)) = true := decide_eq_true c13
                    clear c13
                    by_cases c14 : (ji12) < (a0.size : Int)
                    · rw [if_pos c14] at H
                      have c14b0 : decide ((ji12) < (a0.size : Int)) = true := decide_eq_true c14
                      clear c14
                      replace H := Option.bind_eq_some_iff.mp H
                      obtain ⟨⟨t107, t108⟩, A160, H⟩ := H
                      replace H : (if t106 = true then (if t108 = true then (if x4_1.length < 140737488355328 then (dbus_zzPathUnescape.l0 k1 a0 (x4_1 ++ [Go.bits .or .u8 ((t105 * 16) % 256) t107]) (wrap64 ((ji12) + 1))) else (none)) else (some ((⟨#[]⟩ : ByteArray), false))) else (some ((⟨#[]⟩ : ByteArray), false))) = some (r1, r2) := H
                      have A16 := Aside0.mk A160
                      clear A160
                      by_cases c17 : t106 = true
                      · subst c17
                        have H1 : (if t108 = true then (if x4_1.length < 140737488355328 then (dbus_zzPathUnescape.l0 k1 a0 (x4_1 ++ [Go.bits .or .u8 ((t105 * 16) % 256) t107]) (wrap64 ((ji12) + 1))) else (none)) else (some ((⟨#[]⟩ : ByteArray), false))) = some (r1, r2) := by rw [if_pos rfl] at H; exact H
                        clear H
                        have H := H1
                        clear H1
                        by_cases c18 : t108 = true
                        · subst c18
                          have H1 : (if x4_1.length < 140737488355328 then (dbus_zzPathUnescape.l0 k1 a0 (x4_1 ++ [Go.bits .or .u8 ((t105 * 16) % 256) t107]) (wrap64 ((ji12) + 1))) else (none)) = some (r1, r2) := by rw [if_pos rfl] at H; exact H
                          clear H
                          have H := H1
                          clear H1
                          by_cases c19 : x4_1.length < 140737488355328
                          · rw [if_pos c19] at H
                            have LMc19 := Aside0.mk c19
                            clear c19
                            obtain ⟨y109, hy109⟩ : ∃ y_ : List Int, y_ = (x4_1 ++ [Go.bits .or .u8 ((t105 * 16) % 256) t107]) := ⟨_, rfl⟩
                            replace H : (dbus_zzPathUnescape.l0 k1 a0 y109 (wrap64 ((ji12) + 1))) = some (r1, r2) := by first | (rw [hy109]; with_reducible exact H) | (have H2_ := (Option.bind_some _ _).symm.trans H; rw [hy109]; with_reducible exact H2_) | (have H2_ := (Option.bind_some _ _).symm.trans H; with_reducible exact H2_) | with_reducible exact H | (rw [hy109]; exact H) | exact H
                            have Ny109 := Aside0.mk hy109
                            clear hy109
                            have H' := Aside0.mk H
                            clear H
                            have p4 : 0 ≤ (x5_1 : Int) := of_decide_eq_true (by first | (with_reducible assumption) | assumption)
                            have q4 : x5_1 < (a0.size : Int) := of_decide_eq_true (by first | (with_reducible assumption) | assumption)
                            have hx4 := bt_at a0 x5_1
                            replace p4 := eq_true p4
                            replace q4 := eq_true q4
                            have p10 : 0 ≤ ((ji7) : Int) := of_decide_eq_true (by first | (with_reducible assumption) | assumption)
                            have q10 : (ji7) < (a0.size : Int) := of_decide_eq_true (by first | (with_reducible assumption) | assumption)
                            have hx10 := bt_at a0 (ji7)
                            replace p10 := eq_true p10
                            replace q10 := eq_true q10
                            go_wp2_with (first | ((with_reducible refine gate_callee (f := 39) rfl ?_); refine goesL_ (some 37) rfl rfl Try.func39 (by kernel_rfl) rfl #[.int .u8 (bt a0 (ji7))] rfl (by (try simp only [List.map_toArray, List.map_cons, List.map_nil]); first | done | (simp only [hji7]; rfl) | rfl | (simp only [List.length_drop, List.length_take]; rfl)) ?_; (with_reducible refine (dbus_zzHexDigit.calls k1 (bt a0 (ji7)) t105 true _ A11.out).mono ?_); rintro e w' ⟨rfl, ⟨nd, rfl⟩⟩; refine ⟨_, rfl, ?_⟩; have p15 : 0 ≤ ((ji12) : Int) := of_decide_eq_true (by first | (with_reducible assumption) | assumption); have q15 : (ji12) < (a0.size : Int) := of_decide_eq_true (by first | (with_reducible assumption) | assumption); have hx15 := bt_at a0 (ji12); replace p15 := eq_true p15; replace q15 := eq_true q15) | ((with_reducible refine gate_callee (f := 39) rfl ?_); refine goesL_ (some 45) rfl rfl Try.func39 (by kernel_rfl) rfl #[.int .u8 (bt a0 (ji12))] rfl (by (try simp only [List.map_toArray, List.map_cons, List.map_nil]); first | done | (simp only [hji12]; rfl) | rfl | (simp only [List.length_drop, List.length_take]; rfl)) ?_; (with_reducible refine (dbus_zzHexDigit.calls k1 (bt a0 (ji12)) t107 true _ A16.out).mono ?_); rintro e w' ⟨rfl, ⟨nd, rfl⟩⟩; refine ⟨_, rfl, ?_⟩) | ((with_reducible refine gate_builtin (b := .append) (xs := #[.tmp 55, .tmp 60]) rfl ?_); at_builtin; refine Kd.R_append (Kd.int .u8) (w0 := w) w.heap.size rfl (.tmp 55) (.tmp 60) 41 5 (.int .u8 0) 1 rfl Try.underlying41 info5 rfl (by decide) (by omega) u4 x4_1 (Go.bits .or .u8 ((t105 * 16) % 256) t107) [.int .u8 (Go.bits .or .u8 ((t105 * 16) % 256) t107)] (fun _ => True) (fun _ => False) rfl rfl ?aP (fun _ hk => hk.elim) ?aF ?aO ?aB ?aS ?aL ?_; (case aP => exact rfl); (case aB => exact (by repeat (first | (with_reducible first | exact HB.out | apply below_alloc | apply pw_below_drewN | apply below_drew1) | exact HB.out))); (case aF => exact (fun _ _ => trivial)); (case aO => exact (by (with_reducible repeat (first | apply Kd.R_alloc | apply Kd.R_drewN | apply Kd.R_drew)); exact HO_4.out)); (case aS => exact (below_size (by repeat (first | (with_reducible first | exact HB.out | apply below_alloc | apply pw_below_drewN | apply below_drew1) | exact HB.out)))); (case aL => have := LMc19.out; omega); intro v110 w20 ho hb hg hat; rw [← Ny109.out] at ho; have n0_ := Aside0.mk (hb); have n1_ := Aside0.mk (ho); clear HB; clear HO_4; have HB := n0_; have HO111 := n1_; clear n0_ n1_; clear ho hb hg hat))
                            go_roundg k1
                            case measure => have := HK1.out; omega
                            case rel => exact ⟨(y109), (wrap64 ((ji12) + 1)), (by first | rfl | (simp; done) | (simp only [← hji12] <;> (first | rfl | simp)) | (simp [*]; done)), H', ⟨by have := HK1.out; omega⟩, ⟨by (with_reducible repeat (first | apply Kd.R_alloc | apply Kd.R_drewN | apply Kd.R_drew)); exact HO111.out⟩, ⟨by repeat (first | (with_reducible first | exact HB.out | apply below_alloc | apply pw_below_drewN | apply below_drew1) | exact HB.out)⟩⟩
                          · rw [if_neg c19] at H
                            exact absurd H (by simp)
                        · replace c18 := Bool.eq_false_iff.mpr c18
                          subst c18
                          have H1 : (some ((⟨#[]⟩ : ByteArray), false)) = some (r1, r2) := by rw [if_neg (show ¬ (false = true) by decide)] at H; exact H
                          clear H
                          have H := H1
                          clear H1
                          simp only [Option.some.injEq, Prod.mk.injEq] at H
                          obtain ⟨rfl, rfl⟩ := H
                          have p4 : 0 ≤ (x5_1 : Int) := of_decide_eq_true (by first | (with_reducible assumption) | assumption)
                          have q4 : x5_1 < (a0.size : Int) := of_decide_eq_true (by first | (with_reducible assumption) | assumption)
                          have hx4 := bt_at a0 x5_1
                          replace p4 := eq_true p4
                          replace q4 := eq_true q4
                          have p10 : 0 ≤ ((ji7) : Int) := of_decide_eq_true (by first | (with_reducible assumption) | assumption)
                          have q10 : (ji7) < (a0.size : Int) := of_decide_eq_true (by first | (with_reducible assumption) | assumption)
                          have hx10 := bt_at a0 (ji7)
                          replace p10 := eq_true p10
                          replace q10 := eq_true q10
                          go_wp2_with (first | (go_at_call 38; refine (errors_New.calls _ _).mono ?_; rintro e w' ⟨rfl, rfl⟩) | ((with_reducible refine gate_callee (f := 39) rfl ?_); refine goesL_ (some 37) rfl rfl Try.func39 (by kernel_rfl) rfl #[.int .u8 (bt a0 (ji7))] rfl (by (try simp only [List.map_toArray, List.map_cons, List.map_nil]); first | done | (simp only [hji7]; rfl) | rfl | (simp only [List.length_drop, List.length_take]; rfl)) ?_; (with_reducible refine (dbus_zzHexDigit.calls k1 (bt a0 (ji7)) t105 true _ A11.out).mono ?_); rintro e w' ⟨rfl, ⟨nd, rfl⟩⟩; refine ⟨_, rfl, ?_⟩; have p15 : 0 ≤ ((ji12) : Int) := of_decide_eq_true (by first | (with_reducible assumption) | assumption); have q15 : (ji12) < (a0.size : Int) := of_decide_eq_true (by first | (with_reducible assumption) | assumption); have hx15 := bt_at a0 (ji12); replace p15 := eq_true p15; replace q15 := eq_true q15) | ((with_reducible refine gate_callee (f := 39) rfl ?_); refine goesL_ (some 45) rfl rfl Try.func39 (by kernel_rfl) rfl #[.int .u8 (bt a0 (ji12))] rfl (by (try simp only [List.map_toArray, List.map_cons, List.map_nil]); first | done | (simp only [hji12]; rfl) | rfl | (simp only [List.length_drop, List.length_take]; rfl)) ?_; (with_reducible refine (dbus_zzHexDigit.calls k1 (bt a0 (ji12)) t107 false _ A16.out).mono ?_); rintro e w' ⟨rfl, ⟨nd, rfl⟩⟩; refine ⟨_, rfl, ?_⟩))
                          go_ret2
                          exact ⟨_, by first | rfl | (simp [errW_none, errW_some] <;> rfl) | (simp only [← hji7, ← hji12]; first | rfl | (simp [errW_none, errW_some] <;> rfl)) | (simp [*, errW_none, errW_some] <;> rfl), EB_err _ _, by repeat (first | (with_reducible first | exact HB.out | apply below_alloc | apply pw_below_drewN | apply below_drew1) | exact HB.out)⟩
                      · replace c17 := Bool.eq_false_iff.mpr c17
                        subst c17
                        have H1 : (some ((⟨#[]⟩ : ByteArray), false)) = some (r1, r2) := by rw [if_neg (show ¬ (false = true) by decide)] at H; exact H
                        clear H
                        have H := H1
                        clear H1
                        simp only [Option.some.injEq, Prod.mk.injEq] at H
                        obtain ⟨rfl, rfl⟩ := H
                        have p4 : 0 ≤ (x5_1 : Int) := of_decide_eq_true (by first | (with_reducible assumption) | assumption)
                        have q4 : x5_1 < (a0.size : Int) := of_decide_eq_true (by first | (with_reducible assumption) | assumption)
                        have hx4 := bt_at a0 x5_1
                        replace p4 := eq_true p4
                        replace q4 := eq_true q4
                        have p10 : 0 ≤ ((ji7) : Int) := of_decide_eq_true (by first | (with_reducible assumption) | assumption)
                        have q10 : (ji7) < (a0.size : Int) := of_decide_eq_true (by first | (with_reducible assumption) | assumption)
                        have hx10 := bt_at a0 (ji7)
                        replace p10 := eq_true p10
                        replace q10 := eq_true q10
                        go_wp2_with (first | (go_at_call 38; refine (errors_New.calls _ _).mono ?_; rintro e w' ⟨rfl, rfl⟩) | ((with_reducible refine gate_callee (f := 39) rfl ?_); refine goesL_ (some 37) rfl rfl Try.func39 (by kernel_rfl) rfl #[.int .u8 (bt a0 (ji7))] rfl (by (try simp only [List.map_toArray, List.map_cons, List.map_nil]); first | done | (simp only [hji7]; rfl) | rfl | (simp only [List.length_drop, List.length_take]; rfl)) ?_; (with_reducible refine (dbus_zzHexDigit.calls k1 (bt a0 (ji7)) t105 false _ A11.out).mono ?_); rintro e w' ⟨rfl, ⟨nd, rfl⟩⟩; refine ⟨_, rfl, ?_⟩; have p15 : 0 ≤ ((ji12) : Int) := of_decide_eq_true (by first | (with_reducible assumption) | assumption); have q15 : (ji12) < (a0.size : Int) := of_decide_eq_true (by first | (with_reducible assumption) | assumption); have hx15 := bt_at a0 (ji12); replace p15 := eq_true p15; replace q15 := eq_true q15) | ((with_reducible refine gate_callee (f := 39) rfl ?_); refine goesL_ (some 45) rfl rfl Try.func39 (by kernel_rfl) rfl #[.int .u8 (bt a0 (ji12))] rfl (by (try simp only [List.map_toArray, List.map_cons, List.map_nil]); first | done | (simp only [hji12]; rfl) | rfl | (simp only [List.length_drop, List.length_take]; rfl)) ?_; (with_reducible refine (dbus_zzHexDigit.calls k1 (bt a0 (ji12)) t107 t108 _ A16.out).mono ?_); rintro e w' ⟨rfl, ⟨nd, rfl⟩⟩; refine ⟨_, rfl, ?_⟩))
                        go_ret2
                        exact ⟨_, by first | rfl | (simp [errW_none, errW_some] <;> rfl) | (simp only [← hji7, ← hji12]; first | rfl | (simp [errW_none, errW_some] <;> rfl)) | (simp [*, errW_none, errW_some] <;> rfl), EB_err _ _, by repeat (first | (with_reducible first | exact HB.out | apply below_alloc | apply pw_below_drewN | apply below_drew1) | exact HB.out)⟩
                    · rw [if_neg c14] at H
                      exact absurd H (by simp)
                  · rw [if_neg c13] at H
                    exact absurd H (by simp)
                · rw [if_neg c9] at H
                  exact absurd H (by simp)
              · rw [if_neg c8] at H
                exact absurd H (by simp)
          · rw [if_neg c5] at H
            have c5b0 : ((bt a0 x5_1) == 37) = false := beq_eq_false_iff_ne.mpr c5
            have c5b1 : ((bt a0 x5_1) != 37) = true := bne_iff_ne.mpr c5
            by_cases c22 : x4_1.length < 140737488355328
            · rw [if_pos c22] at H
              have LMc22 := Aside0.mk c22
              clear c22
              obtain ⟨y102, hy102⟩ : ∃ y_ : List Int, y_ = (x4_1 ++ [bt a0 x5_1]) := ⟨_, rfl⟩
              replace H : (dbus_zzPathUnescape.l0 k1 a0 y102 (wrap64 (x5_1 + 1))) = some (r1, r2) := by first | (rw [hy102]; with_reducible exact H) | (have H2_ := (Option.bind_some _ _).symm.trans H; rw [hy102]; with_reducible exact H2_) | (have H2_ := (Option.bind_some _ _).symm.trans H; with_reducible exact H2_) | with_reducible exact H | (rw [hy102]; exact H) | exact H
              have Ny102 := Aside0.mk hy102
              clear hy102
              have H' := Aside0.mk H
              clear H
              have p4 : 0 ≤ (x5_1 : Int) := of_decide_eq_true (by first | (with_reducible assumption) | assumption)
              have q4 : x5_1 < (a0.size : Int) := of_decide_eq_true (by first | (with_reducible assumption) | assumption)
              have hx4 := bt_at a0 x5_1
              replace p4 := eq_true p4
              replace q4 := eq_true q4
              have p21 : 0 ≤ (x5_1 : Int) := of_decide_eq_true (by first | (with_reducible assumption) | assumption)
              have q21 : x5_1 < (a0.size : Int) := of_decide_eq_true (by first | (with_reducible assumption) | assumption)
              have hx21 := bt_at a0 x5_1
              replace p21 := eq_true p21
              replace q21 := eq_true q21
              go_wp2_with (first | ((with_reducible refine gate_builtin (b := .append) (xs := #[.tmp 20, .tmp 24]) rfl ?_); at_builtin; refine Kd.R_append (Kd.int .u8) (w0 := w) w.heap.size rfl (.tmp 20) (.tmp 24) 41 5 (.int .u8 0) 1 rfl Try.underlying41 info5 rfl (by decide) (by omega) u4 x4_1 (bt a0 x5_1) [.int .u8 (bt a0 x5_1)] (fun _ => True) (fun _ => False) rfl rfl ?aP (fun _ hk => hk.elim) ?aF ?aO ?aB ?aS ?aL ?_; (case aP => exact rfl); (case aB => exact (by repeat (first | (with_reducible first | exact HB.out | apply below_alloc | apply pw_below_drewN | apply below_drew1) | exact HB.out))); (case aF => exact (fun _ _ => trivial)); (case aO => exact (by (with_reducible repeat (first | apply Kd.R_alloc | apply Kd.R_drewN | apply Kd.R_drew)); exact HO_4.out)); (case aS => exact (below_size (by repeat (first | (with_reducible first | exact HB.out | apply below_alloc | apply pw_below_drewN | apply below_drew1) | exact HB.out)))); (case aL => have := LMc22.out; omega); intro v103 w23 ho hb hg hat; rw [← Ny102.out] at ho; have n0_ := Aside0.mk (hb); have n1_ := Aside0.mk (ho); clear HB; clear HO_4; have HB := n0_; have HO104 := n1_; clear n0_ n1_; clear ho hb hg hat))
              go_roundg k1
              case measure => have := HK1.out; omega
              case rel => exact ⟨(y102), (wrap64 (x5_1 + 1)), (by first | rfl | (simp; done) | (simp [*]; done)), H', ⟨by have := HK1.out; omega⟩, ⟨by (with_reducible repeat (first | apply Kd.R_alloc | apply Kd.R_drewN | apply Kd.R_drew)); exact HO104.out⟩, ⟨by repeat (first | (with_reducible first | exact HB.out | apply below_alloc | apply pw_below_drewN | apply below_drew1) | exact HB.out)⟩⟩
            · rw [if_neg c22] at H
              exact absurd H (by simp)
        · rw [if_neg c3] at H
          exact absurd H (by simp)
      · rw [if_neg c2] at H
        have c2b0 : decide (x5_1 < (a0.size : Int)) = false := decide_eq_false c2
        clear c2
        simp only [Option.some.injEq, Prod.mk.injEq] at H
        obtain ⟨rfl, rfl⟩ := H
        have hcv24 := own_string (P := Try.prog) Try.underlying41 Try.underlying5 Try.underlying9 (Kd.own_of_R HO_4.out)
        go_wp2_with (go_at_call 38; refine (errors_New.calls _ _).mono ?_; rintro e w' ⟨rfl, rfl⟩)
        go_ret2
        exact ⟨_, by first | rfl | (simp [errW_none, errW_some] <;> rfl) | (simp [*, errW_none, errW_some] <;> rfl), EB_nil, by repeat (first | (with_reducible first | exact HB.out | apply below_alloc | apply pw_below_drewN | apply below_drew1) | exact HB.out)⟩

end Go.Proofs.Ytpndgbiaomglpaa.Ext
