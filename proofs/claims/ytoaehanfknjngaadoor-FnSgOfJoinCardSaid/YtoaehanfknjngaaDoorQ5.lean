-- Written by a program of this session out of the translation; Lean checks it.
import Derived.Test.YtoaehanfknjngaaDoorQ2
namespace Go.Proofs.YtoaehanfknjngaaDoor.Q
open Go.RowKit Go.Proofs.YtoaehanfknjngaaDoor.L Go.Proofs.YtoaehanfknjngaaDoor.Gd Go.Proofs.YtoaehanfknjngaaDoor.Sb Go.Proofs.YtoaehanfknjngaaDoor.Vs Go.Proofs.YtoaehanfknjngaaDoorW.PrintWords Go.Proofs.YtoaehanfknjngaaDoorW.PrintLast Go.Proofs.YtoaehanfknjngaaDoorW.PrintMore
attribute [local go_sem] max2_int min2_int max_two min_two max_three min_three max_four min_four   -- for this text's walks alone
set_option linter.unusedVariables false
set_option linter.unusedSimpArgs false

def spec_complete.f (k : Nat) (a0 : ByteArray) : Option (Int) := (spec_Complete.f k a0 32 32 32).bind fun t106 => (some t106)
theorem spec_complete.mono : ∀ a0 k, LeO (spec_complete.f k a0) (spec_complete.f (k + 1) a0) := by
 intro a0 k
 unfold spec_complete.f
 repeat' first
   | (with_reducible exact spec_Complete.mono _ _ _ _ _)
   | (with_reducible exact LeO.refl _)
   | (with_reducible exact LeO.none _)
   | (with_reducible refine LeO.ite ?_ ?_)
   | (with_reducible refine LeO.bind ?_ (fun _ => ?_))
   | exact spec_Complete.mono _ _ _ _ _
   | exact LeO.none _
   | refine LeO.ite ?_ ?_
   | refine LeO.bind ?_ (fun _ => ?_)
set_option maxHeartbeats 8000000 in
set_option maxRecDepth 100000 in
theorem spec_complete.calls (k : Nat) (a0 : ByteArray) (r : Int) (w : World) (h : spec_complete.f k a0 = some r) :
  Calls Tryd.prog 29 #[.string a0] w fun e w' => e = .returned (.int .i64 r) ∧ Drawn0 w w' := by
 have H : ((spec_Complete.f k a0 32 32 32).bind fun t106 => (some t106)) = some r := h
 clear h
 replace H := Option.bind_eq_some_iff.mp H
 obtain ⟨t106, A20, H⟩ := H
 replace H : (some t106) = some r := H
 have A2 := Aside0.mk A20
 clear A20
 obtain rfl := Option.some.inj H
 go_enter Tryd.func29, Tryd.ntmps29
 go_wp2_with (first | ((with_reducible refine gate_callee (f := 53) rfl ?_); refine goesL_ (some 4) rfl rfl Tryd.func53 (by kernel_rfl) rfl #[.string a0, .int .i64 32, .int .i64 32, .int .i64 32] rfl (by (try simp only [List.map_toArray, List.map_cons, List.map_nil]); first | done | rfl) ?_; (with_reducible refine (spec_Complete.calls k a0 32 32 32 t106 _ A2.out).mono ?_); rintro e w' ⟨rfl, ⟨nd, rfl⟩⟩; refine ⟨_, rfl, ?_⟩))
 go_ret
 exact ⟨by first | rfl | (simp; done) | (simp [*]; done), by repeat (first | exact Drawn0.refl _ | apply Drawn0.step)⟩

def spec_Types.l0 : Nat → ByteArray → List ByteArray → Option (List ByteArray × Bool)
 | 0, _, _ => none
 | k + 1, x0, x4 => if x0.toList = ([] : List UInt8) then (some (x4, true)) else ((spec_complete.f k x0).bind fun t107 => (if t107 = 0 then (some (([] : List ByteArray), false)) else (if 0 ≤ t107 then (if t107 ≤ (x0.size : Int) then (if x4.length < 8796093022208 then (spec_Types.l0 k (x0.extract (t107 : Int).toNat x0.size) (x4 ++ [x0.extract 0 (t107 : Int).toNat])) else (none)) else (none)) else (none))))
def spec_Types.f (k : Nat) (a0 : ByteArray) : Option (List ByteArray × Bool) := if (a0.size : Int) > 255 then (some (([] : List ByteArray), false)) else (spec_Types.l0 k a0 ([] : List ByteArray))
theorem spec_Types.mono_l : ∀ k, (∀ y0 y1, LeO (spec_Types.l0 k y0 y1) (spec_Types.l0 (k + 1) y0 y1))
 | 0 => fun _ _ r h => by simp [spec_Types.l0] at h
 | k + 1 => by
  have ih0 := spec_Types.mono_l k
  ·intro y0 y1
   unfold spec_Types.l0
   repeat' first
   | (with_reducible exact ih0 _ _)
   | (with_reducible exact spec_complete.mono _ _)
   | (with_reducible exact LeO.refl _)
   | (with_reducible exact LeO.none _)
   | (with_reducible refine LeO.ite ?_ ?_)
   | (with_reducible refine LeO.bind ?_ (fun _ => ?_))
   | exact ih0 _ _
   | exact spec_complete.mono _ _
   | exact LeO.none _
   | refine LeO.ite ?_ ?_
   | refine LeO.bind ?_ (fun _ => ?_)
theorem spec_Types.mono : ∀ a0 k, LeO (spec_Types.f k a0) (spec_Types.f (k + 1) a0) := by
 intro a0 k
 have ih0 := spec_Types.mono_l k
 unfold spec_Types.f
 repeat' first
   | (with_reducible exact ih0 _ _)
   | (with_reducible exact spec_complete.mono _ _)
   | (with_reducible exact LeO.refl _)
   | (with_reducible exact LeO.none _)
   | (with_reducible refine LeO.ite ?_ ?_)
   | (with_reducible refine LeO.bind ?_ (fun _ => ?_))
   | exact ih0 _ _
   | exact spec_complete.mono _ _
   | exact LeO.none _
   | refine LeO.ite ?_ ?_
   | refine LeO.bind ?_ (fun _ => ?_)
set_option maxHeartbeats 8000000 in
set_option maxRecDepth 100000 in
theorem spec_Types.calls (k : Nat) (a0 : ByteArray) (r1 : List ByteArray) (r2 : Bool) (w : World) (h : spec_Types.f k a0 = some (r1, r2)) :
  Calls Tryd.prog 20 #[.string a0] w fun e w' => ∃ v0_ : Value, e = .returned (.tuple #[v0_, .bool r2]) ∧ Kd.R Kd.string 9 w' w.heap.size (fun _ => True) v0_ r1 ∧ Below w.heap.size w w' := by
 have HB := Aside0.mk (Below.refl w.heap.size w)
 have H : (if (a0.size : Int) > 255 then (some (([] : List ByteArray), false)) else (spec_Types.l0 k a0 ([] : List ByteArray))) = some (r1, r2) := h
 clear h
 by_cases c2 : (a0.size : Int) > 255
 ·rw [if_pos c2] at H
  have c2b0 : decide (255 < (a0.size : Int)) = true := decide_eq_true c2
  have c2b1 : decide (255 < a0.size) = true := decide_eq_true (by omega)
  clear c2
  simp only [Option.some.injEq, Prod.mk.injEq] at H
  obtain ⟨rfl, rfl⟩ := H
  go_enter Tryd.func20, Tryd.ntmps20
  go_wp2
  go_ret2
  exact ⟨_, by rfl, by first | exact Kd.R_nil _ _ _ _ _ | exact Kd.N_nil _ _ _ _ _ | exact Kd.V_nil _ _ _ _ _ | exact Kd.Q_nil _ _ _ _ _ | exact Kd.S_nil _ _ _ _ _, by repeat (first | (with_reducible first | exact HB.out | apply below_alloc | apply pw_below_drewN | apply below_drew1) | exact HB.out)⟩
 ·rw [if_neg c2] at H
  have c2b0 : decide (255 < (a0.size : Int)) = false := decide_eq_false c2
  have c2b1 : decide (255 < a0.size) = false := decide_eq_false (by omega)
  clear c2
  have H' := Aside0.mk H
  clear H
  go_enter Tryd.func20, Tryd.ntmps20
  go_wp2
  go_loopg [0, 4] k (fun kq v0 v4 w' => ∃ (x0_1 : ByteArray) (x4_1 : List ByteArray), v0 = .string x0_1 ∧ Aside0 (spec_Types.l0 kq x0_1 x4_1 = some (r1, r2)) ∧ Aside0 (kq ≤ k) ∧ Aside0 (Kd.R Kd.string 9 w' w.heap.size (fun _ => True) v4 x4_1) ∧ Aside0 (Below w.heap.size w w'))
  case atStart => exact ⟨(a0), (([] : List ByteArray)), (by first | rfl | (simp; done) | (simp [*]; done)), H', ⟨Nat.le_refl _⟩, ⟨by first | exact Kd.R_nil _ _ _ _ _ | exact Kd.N_nil _ _ _ _ _ | exact Kd.V_nil _ _ _ _ _ | exact Kd.Q_nil _ _ _ _ _ | exact Kd.S_nil _ _ _ _ _⟩, ⟨by repeat (first | (with_reducible first | exact HB.out | apply below_alloc | apply pw_below_drewN | apply below_drew1) | exact HB.out)⟩⟩
  case round =>
   clear H'
   (try clear c2); (try clear c2b0); (try clear c2b1); (try clear p2)
   obtain ⟨x0_1, x4_1, rfl, HA, HK1, HO_4, HB⟩ := hrel
   cases gk with
   | zero => exact absurd HA.out (by simp [spec_Types.l0])
   | succ k1 =>
    have H := HA.out
    clear HA
    simp only [spec_Types.l0] at H
    by_cases c3 : x0_1.toList = ([] : List UInt8)
    ·rw [if_pos c3] at H
     have c3b0 : (x0_1.toList == ([] : List UInt8)) = true := beq_iff_eq.mpr c3
     have c3b1 : (x0_1.toList != ([] : List UInt8)) = false := bne_eq_false_iff_eq.mpr c3
     clear c3
     simp only [Option.some.injEq, Prod.mk.injEq] at H
     obtain ⟨rfl, rfl⟩ := H
     go_wp2
     go_ret2
     exact ⟨_, by rfl, by (with_reducible repeat (first | apply Kd.R_alloc | apply Kd.R_drewN | apply Kd.R_drew)); exact HO_4.out, by repeat (first | (with_reducible first | exact HB.out | apply below_alloc | apply pw_below_drewN | apply below_drew1) | exact HB.out)⟩
    ·rw [if_neg c3] at H
     have c3b0 : (x0_1.toList == ([] : List UInt8)) = false := beq_eq_false_iff_ne.mpr c3
     have c3b1 : (x0_1.toList != ([] : List UInt8)) = true := bne_iff_ne.mpr c3
     replace H := Option.bind_eq_some_iff.mp H
     obtain ⟨t107, A40, H⟩ := H
     replace H : (if t107 = 0 then (some (([] : List ByteArray), false)) else (if 0 ≤ t107 then (if t107 ≤ (x0_1.size : Int) then (if x4_1.length < 8796093022208 then (spec_Types.l0 k1 (x0_1.extract (t107 : Int).toNat x0_1.size) (x4_1 ++ [x0_1.extract 0 (t107 : Int).toNat])) else (none)) else (none)) else (none))) = some (r1, r2) := H
     have A4 := Aside0.mk A40
     clear A40
     by_cases c5 : t107 = 0
     ·rw [if_pos c5] at H
      have c5b0 : (t107 == 0) = true := beq_iff_eq.mpr c5
      have c5b1 : (t107 != 0) = false := bne_eq_false_iff_eq.mpr c5
      clear c5
      simp only [Option.some.injEq, Prod.mk.injEq] at H
      obtain ⟨rfl, rfl⟩ := H
      go_wp2_with (first | ((with_reducible refine gate_callee (f := 29) rfl ?_); refine goesL_ (some 12) rfl rfl Tryd.func29 (by kernel_rfl) rfl #[.string x0_1] rfl (by (try simp only [List.map_toArray, List.map_cons, List.map_nil]); first | done | rfl) ?_; (with_reducible refine (spec_complete.calls k1 x0_1 t107 _ A4.out).mono ?_); rintro e w' ⟨rfl, ⟨nd, rfl⟩⟩; refine ⟨_, rfl, ?_⟩))
      go_ret2
      exact ⟨_, by rfl, by first | exact Kd.R_nil _ _ _ _ _ | exact Kd.N_nil _ _ _ _ _ | exact Kd.V_nil _ _ _ _ _ | exact Kd.Q_nil _ _ _ _ _ | exact Kd.S_nil _ _ _ _ _, by repeat (first | (with_reducible first | exact HB.out | apply below_alloc | apply pw_below_drewN | apply below_drew1) | exact HB.out)⟩
     ·rw [if_neg c5] at H
      have c5b0 : (t107 == 0) = false := beq_eq_false_iff_ne.mpr c5
      have c5b1 : (t107 != 0) = true := bne_iff_ne.mpr c5
      by_cases c6 : 0 ≤ t107
      ·rw [if_pos c6] at H
       have c6b0 := eq_true c6
       have c6b1 : decide (0 ≤ t107) = true := decide_eq_true c6
       clear c6
       by_cases c7 : t107 ≤ (x0_1.size : Int)
       ·rw [if_pos c7] at H
        have c7b0 := eq_true c7
        have c7b1 : decide (t107 ≤ (x0_1.size : Int)) = true := decide_eq_true c7
        clear c7
        by_cases c8 : x4_1.length < 8796093022208
        ·rw [if_pos c8] at H
         have LMc8 := Aside0.mk c8
         clear c8
         obtain ⟨y108, hy108⟩ : ∃ y_ : List ByteArray, y_ = (x4_1 ++ [x0_1.extract 0 (t107 : Int).toNat]) := ⟨_, rfl⟩
         replace H : (spec_Types.l0 k1 (x0_1.extract (t107 : Int).toNat x0_1.size) y108) = some (r1, r2) := by first | (rw [hy108]; with_reducible exact H) | (have H2_ := (Option.bind_some _ _).symm.trans H; rw [hy108]; with_reducible exact H2_) | (have H2_ := (Option.bind_some _ _).symm.trans H; with_reducible exact H2_) | with_reducible exact H | (rw [hy108]; exact H) | exact H
         have Ny108 := Aside0.mk hy108
         clear hy108
         have c9b0 := eq_true (of_decide_eq_true (by first | (with_reducible assumption) | assumption) : 0 ≤ t107)
         have c10b0 := eq_true (of_decide_eq_true (by first | (with_reducible assumption) | assumption) : t107 ≤ (x0_1.size : Int))
         have H' := Aside0.mk H
         clear H
         go_wp2_with (first | ((with_reducible refine gate_callee (f := 29) rfl ?_); refine goesL_ (some 12) rfl rfl Tryd.func29 (by kernel_rfl) rfl #[.string x0_1] rfl (by (try simp only [List.map_toArray, List.map_cons, List.map_nil]); first | done | rfl) ?_; (with_reducible refine (spec_complete.calls k1 x0_1 t107 _ A4.out).mono ?_); rintro e w' ⟨rfl, ⟨nd, rfl⟩⟩; refine ⟨_, rfl, ?_⟩) | ((with_reducible refine gate_builtin (b := .append) (xs := #[.tmp 15, .tmp 19]) rfl ?_); at_builtin; refine Kd.R_append Kd.string (w0 := w) w.heap.size rfl (.tmp 15) (.tmp 19) 49 9 (.string ⟨#[]⟩) 16 rfl Tryd.underlying49 info9 rfl (by decide) (by omega) u4 x4_1 (x0_1.extract 0 (t107 : Int).toNat) [.string (x0_1.extract 0 (t107 : Int).toNat)] (fun _ => True) (fun _ => False) rfl rfl ?aP (fun _ hk => hk.elim) ?aF ?aO ?aB ?aS ?aL ?_; (case aP => exact rfl); (case aB => exact (by repeat (first | (with_reducible first | exact HB.out | apply below_alloc | apply pw_below_drewN | apply below_drew1) | exact HB.out))); (case aF => exact (fun _ _ => trivial)); (case aO => exact (by (with_reducible repeat (first | apply Kd.R_alloc | apply Kd.R_drewN | apply Kd.R_drew)); exact HO_4.out)); (case aS => exact (below_size (by repeat (first | (with_reducible first | exact HB.out | apply below_alloc | apply pw_below_drewN | apply below_drew1) | exact HB.out)))); (case aL => have := LMc8.out; omega); intro v109 w11 ho hb hg hat; rw [← Ny108.out] at ho; have n0_ := Aside0.mk (hb); have n1_ := Aside0.mk (ho); clear HB; clear HO_4; have HB := n0_; have HO110 := n1_; clear n0_ n1_; clear ho hb hg hat))
         go_roundg k1
         case measure => have := HK1.out; omega
         case rel => exact ⟨(x0_1.extract (t107 : Int).toNat x0_1.size), (y108), (by first | rfl | (simp; done) | (simp [*]; done)), H', ⟨by have := HK1.out; omega⟩, ⟨by (with_reducible repeat (first | apply Kd.R_alloc | apply Kd.R_drewN | apply Kd.R_drew)); exact HO110.out⟩, ⟨by repeat (first | (with_reducible first | exact HB.out | apply below_alloc | apply pw_below_drewN | apply below_drew1) | exact HB.out)⟩⟩
        ·rw [if_neg c8] at H
         exact absurd H (by simp)
       ·rw [if_neg c7] at H
        exact absurd H (by simp)
      ·rw [if_neg c6] at H
       exact absurd H (by simp)

def spec_Valid.f (k : Nat) (a0 : ByteArray) : Option (Bool) := (spec_Types.f k a0).bind fun bt111 => (some bt111.2)
theorem spec_Valid.mono : ∀ a0 k, LeO (spec_Valid.f k a0) (spec_Valid.f (k + 1) a0) := by
 intro a0 k
 unfold spec_Valid.f
 repeat' first
   | (with_reducible exact spec_Types.mono _ _)
   | (with_reducible exact LeO.refl _)
   | (with_reducible exact LeO.none _)
   | (with_reducible refine LeO.ite ?_ ?_)
   | (with_reducible refine LeO.bind ?_ (fun _ => ?_))
   | exact spec_Types.mono _ _
   | exact LeO.none _
   | refine LeO.ite ?_ ?_
   | refine LeO.bind ?_ (fun _ => ?_)
set_option maxHeartbeats 8000000 in
set_option maxRecDepth 100000 in
theorem spec_Valid.calls (k : Nat) (a0 : ByteArray) (r : Bool) (w : World) (h : spec_Valid.f k a0 = some r) :
  Calls Tryd.prog 12 #[.string a0] w fun e w' => e = .returned (.bool r) ∧ Below w.heap.size w w' := by
 have HB := Aside0.mk (Below.refl w.heap.size w)
 have H : ((spec_Types.f k a0).bind fun bt111 => (some bt111.2)) = some r := h
 clear h
 replace H := Option.bind_eq_some_iff.mp H
 obtain ⟨⟨t111, t112⟩, A20, H⟩ := H
 replace H : (some t112) = some r := H
 have A2 := Aside0.mk A20
 clear A20
 obtain rfl := Option.some.inj H
 go_enter Tryd.func12, Tryd.ntmps12
 go_wp2_with (first | ((with_reducible refine gate_callee (f := 20) rfl ?_); refine goesL_ (some 7) rfl rfl Tryd.func20 (by kernel_rfl) rfl #[.string a0] rfl (by (try simp only [List.map_toArray, List.map_cons, List.map_nil]); first | done | rfl) ?_; (with_reducible refine (spec_Types.calls k a0 t111 t112 _ A2.out).mono ?_); rintro e w3 ⟨v113, rfl, ho0, hb⟩; refine ⟨_, rfl, ?_⟩; have n0_ := Aside0.mk (Kd.R_lower ho0 (below_size (by repeat (first | (with_reducible first | exact HB.out | apply below_alloc | apply pw_below_drewN | apply below_drew1) | exact HB.out)))); have n1_ := Aside0.mk (below_step (by repeat (first | (with_reducible first | exact HB.out | apply below_alloc | apply pw_below_drewN | apply below_drew1) | exact HB.out)) hb); clear HB; have HO114 := n0_; have HB := n1_; clear n0_ n1_; (try clear hb); (try clear hb2); (try clear hk); (try clear hi); (try clear ho0)))
 go_ret
 exact ⟨by rfl, by repeat (first | (with_reducible first | exact HB.out | apply below_alloc | apply pw_below_drewN | apply below_drew1) | exact HB.out)⟩

mutual
def spec_SigOf.j0 : Nat → Bool → Int → Int → ByteArray → List (S30) → Option (ByteArray)
 | 0, _, _, _, _, _ => none
 | k + 1, x14, x116000, x116001, x116002, x116003 => if x14 = true then (if x116000 = 123 then (spec_SigOf.j1 k (⟨#[125]⟩ : ByteArray) x116000 x116001 x116002 x116003) else (spec_SigOf.j1 k (⟨#[41]⟩ : ByteArray) x116000 x116001 x116002 x116003)) else (some (strOfNums (([x116000] : List Int))))
def spec_SigOf.j1 : Nat → ByteArray → Int → Int → ByteArray → List (S30) → Option (ByteArray)
 | 0, _, _, _, _, _ => none
 | k + 1, x3, x116000, x116001, x116002, x116003 => spec_SigOf.l0 k x3 (strOfNums (([x116000] : List Int))) x116003 (x116003.length : Int) 0
def spec_SigOf.l0 : Nat → ByteArray → ByteArray → List (S30) → Int → Int → Option (ByteArray)
 | 0, _, _, _, _, _ => none
 | k + 1, x3, x4, x25, x26, x27 => if x27 < x26 then (if 0 ≤ x27 then (if x27 < (x25.length : Int) then ((spec_SigOf.f k ((rd_T30 x25 x27).f0) ((rd_T30 x25 x27).f1) ((rd_T30 x25 x27).f2) ((rd_T30 x25 x27).f3)).bind fun t121 => (if x4.size + t121.size ≤ 9223372036854775807 then (spec_SigOf.l0 k x3 (x4 ++ t121) x25 x26 (wrap64 (x27 + 1))) else (none))) else (none)) else (none)) else (if x4.size + x3.size ≤ 9223372036854775807 then (some (x4 ++ x3)) else (none))
def spec_SigOf.f : Nat → Int → Int → ByteArray → List (S30) → Option (ByteArray)
 | 0, _, _, _, _ => none
 | k + 1, a0_0, a0_1, a0_2, l0_3 => if a0_0 = 97 then (if 1 + a0_2.size ≤ 9223372036854775807 then (some ((⟨#[97]⟩ : ByteArray) ++ a0_2)) else (none)) else (if a0_0 = 40 then (spec_SigOf.j0 k (a0_0 == 40) a0_0 a0_1 a0_2 l0_3) else (spec_SigOf.j0 k (a0_0 == 123) a0_0 a0_1 a0_2 l0_3))
end
theorem spec_SigOf.mono_l : ∀ k, (∀ y0 y1 y2 y3, LeO (spec_SigOf.f k y0 y1 y2 y3) (spec_SigOf.f (k + 1) y0 y1 y2 y3)) ∧ (∀ y0 y1 y2 y3 y4, LeO (spec_SigOf.j0 k y0 y1 y2 y3 y4) (spec_SigOf.j0 (k + 1) y0 y1 y2 y3 y4)) ∧ (∀ y0 y1 y2 y3 y4, LeO (spec_SigOf.j1 k y0 y1 y2 y3 y4) (spec_SigOf.j1 (k + 1) y0 y1 y2 y3 y4)) ∧ (∀ y0 y1 y2 y3 y4, LeO (spec_SigOf.l0 k y0 y1 y2 y3 y4) (spec_SigOf.l0 (k + 1) y0 y1 y2 y3 y4))
 | 0 => ⟨fun _ _ _ _ r h => by simp [spec_SigOf.f] at h, fun _ _ _ _ _ r h => by simp [spec_SigOf.j0] at h, fun _ _ _ _ _ r h => by simp [spec_SigOf.j1] at h, fun _ _ _ _ _ r h => by simp [spec_SigOf.l0] at h⟩
 | k + 1 => by
  obtain ⟨ih0, ih1, ih2, ih3⟩ := spec_SigOf.mono_l k
  refine ⟨?_, ?_, ?_, ?_⟩
  ·intro y0 y1 y2 y3
   unfold spec_SigOf.f
   repeat' first
   | (with_reducible exact ih0 _ _ _ _)
   | (with_reducible exact ih1 _ _ _ _ _)
   | (with_reducible exact ih2 _ _ _ _ _)
   | (with_reducible exact ih3 _ _ _ _ _)
   | (with_reducible exact LeO.refl _)
   | (with_reducible exact LeO.none _)
   | (with_reducible refine LeO.ite ?_ ?_)
   | (with_reducible refine LeO.bind ?_ (fun _ => ?_))
   | exact ih0 _ _ _ _
   | exact ih1 _ _ _ _ _
   | exact ih2 _ _ _ _ _
   | exact ih3 _ _ _ _ _
   | exact LeO.none _
   | refine LeO.ite ?_ ?_
   | refine LeO.bind ?_ (fun _ => ?_)
  ·intro y0 y1 y2 y3 y4
   unfold spec_SigOf.j0
   repeat' first
   | (with_reducible exact ih0 _ _ _ _)
   | (with_reducible exact ih1 _ _ _ _ _)
   | (with_reducible exact ih2 _ _ _ _ _)
   | (with_reducible exact ih3 _ _ _ _ _)
   | (with_reducible exact LeO.refl _)
   | (with_reducible exact LeO.none _)
   | (with_reducible refine LeO.ite ?_ ?_)
   | (with_reducible refine LeO.bind ?_ (fun _ => ?_))
   | exact ih0 _ _ _ _
   | exact ih1 _ _ _ _ _
   | exact ih2 _ _ _ _ _
   | exact ih3 _ _ _ _ _
   | exact LeO.none _
   | refine LeO.ite ?_ ?_
   | refine LeO.bind ?_ (fun _ => ?_)
  ·intro y0 y1 y2 y3 y4
   unfold spec_SigOf.j1
   repeat' first
   | (with_reducible exact ih0 _ _ _ _)
   | (with_reducible exact ih1 _ _ _ _ _)
   | (with_reducible exact ih2 _ _ _ _ _)
   | (with_reducible exact ih3 _ _ _ _ _)
   | (with_reducible exact LeO.refl _)
   | (with_reducible exact LeO.none _)
   | (with_reducible refine LeO.ite ?_ ?_)
   | (with_reducible refine LeO.bind ?_ (fun _ => ?_))
   | exact ih0 _ _ _ _
   | exact ih1 _ _ _ _ _
   | exact ih2 _ _ _ _ _
   | exact ih3 _ _ _ _ _
   | exact LeO.none _
   | refine LeO.ite ?_ ?_
   | refine LeO.bind ?_ (fun _ => ?_)
  ·intro y0 y1 y2 y3 y4
   unfold spec_SigOf.l0
   repeat' first
   | (with_reducible exact ih0 _ _ _ _)
   | (with_reducible exact ih1 _ _ _ _ _)
   | (with_reducible exact ih2 _ _ _ _ _)
   | (with_reducible exact ih3 _ _ _ _ _)
   | (with_reducible exact LeO.refl _)
   | (with_reducible exact LeO.none _)
   | (with_reducible refine LeO.ite ?_ ?_)
   | (with_reducible refine LeO.bind ?_ (fun _ => ?_))
   | exact ih0 _ _ _ _
   | exact ih1 _ _ _ _ _
   | exact ih2 _ _ _ _ _
   | exact ih3 _ _ _ _ _
   | exact LeO.none _
   | refine LeO.ite ?_ ?_
   | refine LeO.bind ?_ (fun _ => ?_)
theorem spec_SigOf.mono : ∀ a0 a1 a2 a3 k, LeO (spec_SigOf.f k a0 a1 a2 a3) (spec_SigOf.f (k + 1) a0 a1 a2 a3) := by
 intro a0 a1 a2 a3 k
 obtain ⟨ih0, ih1, ih2, ih3⟩ := spec_SigOf.mono_l k
 exact ih0 a0 a1 a2 a3
set_option maxHeartbeats 8000000 in
set_option maxRecDepth 100000 in
theorem spec_SigOf.calls (k : Nat) : ∀ (a0_0 : Int) (a0_1 : Int) (a0_2 : ByteArray) (A0_3 : Option Addr) (c0_3 : Nat) (l0_3 : List (S30)) (r : ByteArray) (w : World) (hr0_3 : Kd.C k30 w A0_3 l0_3.length l0_3) (hc0_3 : l0_3.length ≤ c0_3) (h : spec_SigOf.f k a0_0 a0_1 a0_2 l0_3 = some r),
  Calls Tryd.prog 13 #[.agg #[.int .u8 a0_0, .int .u64 a0_1, .string a0_2, .slice A0_3 l0_3.length c0_3]] w fun e w' => e = .returned (.string r) ∧ Below w.heap.size w w' := by
 induction k using Nat.strongRecOn with
 | _ k ih =>
 intro a0_0 a0_1 a0_2 A0_3 c0_3 l0_3 r w hr0_3 hc0_3 h
 cases k with
 | zero => exact absurd h (by simp [spec_SigOf.f])
 | succ k =>
 simp only [spec_SigOf.f] at h
 have hu30 := Tryd.underlying30
 have HR0_3 := Aside0.mk hr0_3
 have HC0_3 := Aside0.mk hc0_3
 clear hr0_3 hc0_3
 have HB := Aside0.mk (Below.refl w.heap.size w)
 have H : (if a0_0 = 97 then (if 1 + a0_2.size ≤ 9223372036854775807 then (some ((⟨#[97]⟩ : ByteArray) ++ a0_2)) else (none)) else (if a0_0 = 40 then (spec_SigOf.j0 k (a0_0 == 40) a0_0 a0_1 a0_2 l0_3) else (spec_SigOf.j0 k (a0_0 == 123) a0_0 a0_1 a0_2 l0_3))) = some r := h
 clear h
 by_cases c2 : a0_0 = 97
 ·rw [if_pos c2] at H
  have c2b0 : (a0_0 == 97) = true := beq_iff_eq.mpr c2
  have c2b1 : (a0_0 != 97) = false := bne_eq_false_iff_eq.mpr c2
  clear c2
  by_cases c3 : 1 + a0_2.size ≤ 9223372036854775807
  ·rw [if_pos c3] at H
   have c3b0 := eq_true c3
   have c3b1 : decide (1 + a0_2.size ≤ 9223372036854775807) = true := decide_eq_true c3
   try have c3b2 : (9223372036854775807 < 1 + a0_2.size) = False := eq_false (Nat.not_lt.2 c3)
   try (have c3b3 := c3b2; simp only [ByteArray.size_append] at c3b3)
   try (have c3b4 := c3b3; simp only [show ∀ c : UInt8, (ByteArray.mk #[c]).size = 1 from fun _ => rfl] at c3b4)
   obtain rfl := Option.some.inj H
   go_enter Tryd.func13, Tryd.ntmps13
   go_wp2_with (first | ((with_reducible refine gate_dst (N := 1) rfl ?_); refine box_event ?hg (N := 1) ?hd (cs := #[.int .u8 a0_0, .int .u64 a0_1, .string a0_2, .slice A0_3 l0_3.length c0_3]) (t := 30) ?hr ?_; (case hd => rfl); (case hg => rfl); (case hr => first | (go_simp; done) | (go_simp; rfl)); intro gb115 hg w4 hbox hb; have n0_ := Aside0.mk (below_step (by repeat (first | (with_reducible first | exact HB.out | apply below_alloc | apply pw_below_drewN | apply below_drew1) | exact HB.out)) hb); have n1_ := Aside0.mk (hbox); have n2_ := Aside0.mk ((by rw [hg]; exact (below_size (by repeat (first | (with_reducible first | exact HB.out | apply below_alloc | apply pw_below_drewN | apply below_drew1) | exact HB.out))) : w.heap.size ≤ gb115)); have n3_ := Aside0.mk ((by rw [hg]; exact (below_size (by repeat (first | (with_reducible first | exact HB.out | apply below_alloc | apply pw_below_drewN | apply below_drew1) | exact HB.out))) : w.heap.size ≤ gb115)); clear HB; have HB := n0_; have BK115 := n1_; have GW115 := n2_; have GE115 := n3_; clear n0_ n1_ n2_ n3_; clear hb hbox hg; have hcz5_0 : w4.cell? ⟨gb115, 0, none⟩ = some (.int .u8 a0_0) := (blk_cell BK115.out 0).trans rfl; have hcz5_1 : w4.cell? ⟨gb115, 1, none⟩ = some (.int .u64 a0_1) := (blk_cell BK115.out 1).trans rfl; have hcz5_2 : w4.cell? ⟨gb115, 2, none⟩ = some (.string a0_2) := (blk_cell BK115.out 2).trans rfl; have hcz5_3 : w4.cell? ⟨gb115, 3, none⟩ = some (.slice A0_3 l0_3.length c0_3) := (blk_cell BK115.out 3).trans rfl; have hfz5_0 := blk_frozen BK115.out 0; have hfz5_1 := blk_frozen BK115.out 1; have hfz5_2 := blk_frozen BK115.out 2; have hfz5_3 := blk_frozen BK115.out 3))
   go_ret
   exact ⟨by rfl, by repeat (first | (with_reducible first | exact HB.out | apply below_alloc | apply pw_below_drewN | apply below_drew1 | refine below_set ?_ GE115.out) | exact HB.out)⟩
  ·rw [if_neg c3] at H
   exact absurd H (by simp)
 ·rw [if_neg c2] at H
  have c2b0 : (a0_0 == 97) = false := beq_eq_false_iff_ne.mpr c2
  have c2b1 : (a0_0 != 97) = true := bne_iff_ne.mpr c2
  have HC6 := Aside0.mk H
  clear H
  go_enter Tryd.func13, Tryd.ntmps13
  go_upto_if 14 with (first | ((with_reducible refine gate_dst (N := 1) rfl ?_); refine box_event ?hg (N := 1) ?hd (cs := #[.int .u8 a0_0, .int .u64 a0_1, .string a0_2, .slice A0_3 l0_3.length c0_3]) (t := 30) ?hr ?_; (case hd => rfl); (case hg => rfl); (case hr => first | (go_simp; done) | (go_simp; rfl)); intro gb115 hg w7 hbox hb; have n0_ := Aside0.mk (below_step (by repeat (first | (with_reducible first | exact HB.out | apply below_alloc | apply pw_below_drewN | apply below_drew1) | exact HB.out)) hb); have n1_ := Aside0.mk (hbox); have n2_ := Aside0.mk ((by rw [hg]; exact (below_size (by repeat (first | (with_reducible first | exact HB.out | apply below_alloc | apply pw_below_drewN | apply below_drew1) | exact HB.out))) : w.heap.size ≤ gb115)); have n3_ := Aside0.mk ((by rw [hg]; exact (below_size (by repeat (first | (with_reducible first | exact HB.out | apply below_alloc | apply pw_below_drewN | apply below_drew1) | exact HB.out))) : w.heap.size ≤ gb115)); clear HB; have HB := n0_; have BK115 := n1_; have GW115 := n2_; have GE115 := n3_; clear n0_ n1_ n2_ n3_; clear hb hbox hg; have hcz8_0 : w7.cell? ⟨gb115, 0, none⟩ = some (.int .u8 a0_0) := (blk_cell BK115.out 0).trans rfl; have hcz8_1 : w7.cell? ⟨gb115, 1, none⟩ = some (.int .u64 a0_1) := (blk_cell BK115.out 1).trans rfl; have hcz8_2 : w7.cell? ⟨gb115, 2, none⟩ = some (.string a0_2) := (blk_cell BK115.out 2).trans rfl; have hcz8_3 : w7.cell? ⟨gb115, 3, none⟩ = some (.slice A0_3 l0_3.length c0_3) := (blk_cell BK115.out 3).trans rfl; have hfz8_0 := blk_frozen BK115.out 0; have hfz8_1 := blk_frozen BK115.out 1; have hfz8_2 := blk_frozen BK115.out 2; have hfz8_3 := blk_frozen BK115.out 3))
  (try simp only [Act.put, List.setIfInBounds_toArray, List.set_cons_zero, List.set_cons_succ])
  go_cut [14] (fun v14 wc => ∃ (kq : Nat) (x14_5 : Bool), v14 = .bool x14_5 ∧ Aside0 (spec_SigOf.j0 kq x14_5 a0_0 a0_1 a0_2 l0_3 = some r) ∧ Aside0 (kq ≤ k) ∧ Aside0 (wc.heap[gb115]? = some (.cells #[.int .u8 a0_0, .int .u64 a0_1, .string a0_2, (.slice A0_3 l0_3.length c0_3)] 30 (0, 0))) ∧ Aside0 (Below w.heap.size w wc))
  case first =>
   have H := HC6.out
   clear HC6
   by_cases c9 : a0_0 = 40
   ·rw [if_pos c9] at H
    have c9b0 : (a0_0 == 40) = true := beq_iff_eq.mpr c9
    have c9b1 : (a0_0 != 40) = false := bne_eq_false_iff_eq.mpr c9
    clear c9
    (first | rw [c9b0] | (simp only [i64_w, i32_w]; rw [c9b0]) | skip)
    have H' := Aside0.mk H
    clear H
    go_wp2
    go_meet
    case rel => exact ⟨_, ((a0_0 == 40)), (by first | rfl | (simp; done) | (simp [*]; done)), H', ⟨by first | omega | exact Nat.le_refl _⟩, ⟨by (with_reducible repeat (first | refine blk_drewN ?_ _ | refine blk_drew ?_ | refine blk_alloc ?_ _)); exact BK115.out⟩, ⟨by repeat (first | (with_reducible first | exact HB.out | apply below_alloc | apply pw_below_drewN | apply below_drew1 | refine below_set ?_ GE115.out) | exact HB.out)⟩⟩
   ·rw [if_neg c9] at H
    have c9b0 : (a0_0 == 40) = false := beq_eq_false_iff_ne.mpr c9
    have c9b1 : (a0_0 != 40) = true := bne_iff_ne.mpr c9
    (first | rw [c9b0] | (simp only [i64_w, i32_w]; rw [c9b0]) | skip)
    have H' := Aside0.mk H
    clear H
    go_wp2
    go_meet
    case rel => exact ⟨_, ((a0_0 == 123)), (by first | rfl | (simp; done) | (simp [*]; done)), H', ⟨by first | omega | exact Nat.le_refl _⟩, ⟨by (with_reducible repeat (first | refine blk_drewN ?_ _ | refine blk_drew ?_ | refine blk_alloc ?_ _)); exact BK115.out⟩, ⟨by repeat (first | (with_reducible first | exact HB.out | apply below_alloc | apply pw_below_drewN | apply below_drew1 | refine below_set ?_ GE115.out) | exact HB.out)⟩⟩
  case rest =>
   clear HC6
   (try clear c1); (try clear c2); (try clear c2b0); (try clear c2b1); (try clear p2); (try clear c3); (try clear c3b0); (try clear c3b1); (try clear c3b2); (try clear c9); (try clear c9b0); (try clear c9b1); (try clear hcz5_0); (try clear hcz5_1); (try clear hcz5_2); (try clear hcz5_3); (try clear hcz8_0); (try clear hcz8_1); (try clear hcz8_2); (try clear hcz8_3); (try clear hfz5_0); (try clear hfz5_1); (try clear hfz5_2); (try clear hfz5_3); (try clear hfz8_0); (try clear hfz8_1); (try clear hfz8_2); (try clear hfz8_3)
   obtain ⟨kq, x14_5, rfl, HA, HJ5, BK115, HB⟩ := hcut
   cases kq with
   | zero => exact absurd HA.out (by simp [spec_SigOf.j0])
   | succ kj5 =>
    have H := HA.out
    clear HA
    simp only [spec_SigOf.j0] at H
    by_cases c10 : x14_5 = true
    ·subst c10
     have H1 : (if a0_0 = 123 then (spec_SigOf.j1 kj5 (⟨#[125]⟩ : ByteArray) a0_0 a0_1 a0_2 l0_3) else (spec_SigOf.j1 kj5 (⟨#[41]⟩ : ByteArray) a0_0 a0_1 a0_2 l0_3)) = some r := by rw [if_pos rfl] at H; exact H
     clear H
     have H := H1
     clear H1
     have HC11 := Aside0.mk H
     clear H
     have hcz12_0 : wc.cell? ⟨gb115, 0, none⟩ = some (.int .u8 a0_0) := (blk_cell BK115.out 0).trans rfl
     have hcz12_1 : wc.cell? ⟨gb115, 1, none⟩ = some (.int .u64 a0_1) := (blk_cell BK115.out 1).trans rfl
     have hcz12_2 : wc.cell? ⟨gb115, 2, none⟩ = some (.string a0_2) := (blk_cell BK115.out 2).trans rfl
     have hcz12_3 : wc.cell? ⟨gb115, 3, none⟩ = some (.slice A0_3 l0_3.length c0_3) := (blk_cell BK115.out 3).trans rfl
     have hfz12_0 := blk_frozen BK115.out 0
     have hfz12_1 := blk_frozen BK115.out 1
     have hfz12_2 := blk_frozen BK115.out 2
     have hfz12_3 := blk_frozen BK115.out 3
     go_upto_if 19 with (fail)
     go_cut [3] (fun v3 wc => ∃ (kq : Nat) (x3_10 : ByteArray), v3 = .string x3_10 ∧ Aside0 (spec_SigOf.j1 kq x3_10 a0_0 a0_1 a0_2 l0_3 = some r) ∧ Aside0 (kq ≤ kj5) ∧ Aside0 (wc.heap[gb115]? = some (.cells #[.int .u8 a0_0, .int .u64 a0_1, .string a0_2, (.slice A0_3 l0_3.length c0_3)] 30 (0, 0))) ∧ Aside0 (Below w.heap.size w wc))
     case first =>
      have H := HC11.out
      clear HC11
      by_cases c13 : a0_0 = 123
      ·rw [if_pos c13] at H
       have c13b0 : (a0_0 == 123) = true := beq_iff_eq.mpr c13
       have c13b1 : (a0_0 != 123) = false := bne_eq_false_iff_eq.mpr c13
       clear c13
       (first | rw [c13b0] | (simp only [i64_w, i32_w]; rw [c13b0]) | skip)
       have H' := Aside0.mk H
       clear H
       go_wp2
       go_meet
       case rel => exact ⟨_, ((⟨#[125]⟩ : ByteArray)), (by first | rfl | (simp; done) | (simp [*]; done)), H', ⟨by have := HJ5.out; first | omega | exact Nat.le_refl _⟩, ⟨by (with_reducible repeat (first | refine blk_drewN ?_ _ | refine blk_drew ?_ | refine blk_alloc ?_ _)); exact BK115.out⟩, ⟨by repeat (first | (with_reducible first | exact HB.out | apply below_alloc | apply pw_below_drewN | apply below_drew1 | refine below_set ?_ GE115.out) | exact HB.out)⟩⟩
      ·rw [if_neg c13] at H
       have c13b0 : (a0_0 == 123) = false := beq_eq_false_iff_ne.mpr c13
       have c13b1 : (a0_0 != 123) = true := bne_iff_ne.mpr c13
       (first | rw [c13b0] | (simp only [i64_w, i32_w]; rw [c13b0]) | skip)
       have H' := Aside0.mk H
       clear H
       go_wp2
       go_meet
       case rel => exact ⟨_, ((⟨#[41]⟩ : ByteArray)), (by first | rfl | (simp; done) | (simp [*]; done)), H', ⟨by have := HJ5.out; first | omega | exact Nat.le_refl _⟩, ⟨by (with_reducible repeat (first | refine blk_drewN ?_ _ | refine blk_drew ?_ | refine blk_alloc ?_ _)); exact BK115.out⟩, ⟨by repeat (first | (with_reducible first | exact HB.out | apply below_alloc | apply pw_below_drewN | apply below_drew1 | refine below_set ?_ GE115.out) | exact HB.out)⟩⟩
     case rest =>
      clear HC11
      (try clear c1); (try clear c2); (try clear c2b0); (try clear c2b1); (try clear p2); (try clear c3); (try clear c3b0); (try clear c3b1); (try clear c3b2); (try clear c9); (try clear c9b0); (try clear c9b1); (try clear c10); (try clear c13); (try clear c13b0); (try clear c13b1); (try clear hcz12_0); (try clear hcz12_1); (try clear hcz12_2); (try clear hcz12_3); (try clear hcz5_0); (try clear hcz5_1); (try clear hcz5_2); (try clear hcz5_3); (try clear hcz8_0); (try clear hcz8_1); (try clear hcz8_2); (try clear hcz8_3); (try clear hfz12_0); (try clear hfz12_1); (try clear hfz12_2); (try clear hfz12_3); (try clear hfz5_0); (try clear hfz5_1); (try clear hfz5_2); (try clear hfz5_3); (try clear hfz8_0); (try clear hfz8_1); (try clear hfz8_2); (try clear hfz8_3); (try clear p2)
      obtain ⟨kq, x3_10, rfl, HA, HJ10, BK115, HB⟩ := hcut
      cases kq with
      | zero => exact absurd HA.out (by simp [spec_SigOf.j1])
      | succ kj10 =>
       have H := HA.out
       clear HA
       simp only [spec_SigOf.j1] at H
       obtain ⟨y116, hy116⟩ : ∃ y_ : List Int, y_ = (([a0_0] : List Int)) := ⟨_, rfl⟩
       replace H : (spec_SigOf.l0 kj10 x3_10 (strOfNums y116) l0_3 (l0_3.length : Int) 0) = some r := by first | (rw [hy116]; with_reducible exact H) | (have H2_ := (Option.bind_some _ _).symm.trans H; rw [hy116]; with_reducible exact H2_) | (have H2_ := (Option.bind_some _ _).symm.trans H; with_reducible exact H2_) | with_reducible exact H | (rw [hy116]; exact H) | exact H
       have Ny116 := Aside0.mk hy116
       clear hy116
       have H' := Aside0.mk H
       clear H
       have hcz14_0 : wc.cell? ⟨gb115, 0, none⟩ = some (.int .u8 a0_0) := (blk_cell BK115.out 0).trans rfl
       have hcz14_1 : wc.cell? ⟨gb115, 1, none⟩ = some (.int .u64 a0_1) := (blk_cell BK115.out 1).trans rfl
       have hcz14_2 : wc.cell? ⟨gb115, 2, none⟩ = some (.string a0_2) := (blk_cell BK115.out 2).trans rfl
       have hcz14_3 : wc.cell? ⟨gb115, 3, none⟩ = some (.slice A0_3 l0_3.length c0_3) := (blk_cell BK115.out 3).trans rfl
       have hfz14_0 := blk_frozen BK115.out 0
       have hfz14_1 := blk_frozen BK115.out 1
       have hfz14_2 := blk_frozen BK115.out 2
       have hfz14_3 := blk_frozen BK115.out 3
       go_wp2_with (first | ((with_reducible refine gate_dst (N := 22) rfl ?_); refine Kd.R_lit (Kd.int .u8) _ 5 ?hg (N := 22) ?hd (xs := ([a0_0] : List Int)) (inner := [.int .u8 a0_0]) (ok := fun _ => True) (okp := fun _ => True) ?hr ?hp (fun _ hk => hk) trivial (Below.refl _ _) (Nat.le_refl _) (by simp) ?_; (case hd => rfl); (case hg => rfl); (case hr => first | (go_simp; done) | (go_simp; rfl)); (case hp => exact (Reps.one (show Kd.M (Kd.int .u8) _ _ _ a0_0 [.int .u8 a0_0] from rfl) (Reps.none _ _))); intro v117 w15 ho16 hb hg_ hnew_; clear hg_ hnew_; (first | rw [← Ny116.out] at ho16 | (simp only [Int.reduceToNat] at ho16; rw [← Ny116.out] at ho16)); have n0_ := Aside0.mk (Kd.R_lower ho16 (below_size (by repeat (first | (with_reducible first | exact HB.out | apply below_alloc | apply pw_below_drewN | apply below_drew1 | refine below_set ?_ GE115.out) | exact HB.out)))); have n1_ := Aside0.mk (blk_below (g := gb115) (o := .cells #[.int .u8 a0_0, .int .u64 a0_1, .string a0_2, .slice A0_3 l0_3.length c0_3] 30 (0, 0)) (by (with_reducible repeat (first | refine blk_drewN ?_ _ | refine blk_drew ?_ | refine blk_alloc ?_ _)); exact BK115.out) hb); have n2_ := Aside0.mk (below_step (by repeat (first | (with_reducible first | exact HB.out | apply below_alloc | apply pw_below_drewN | apply below_drew1 | refine below_set ?_ GE115.out) | exact HB.out)) hb); clear BK115; clear HB; have HO118 := n0_; have BK115 := n1_; have HB := n2_; clear n0_ n1_ n2_; clear hb ho16; have hcv17 := own_string (P := Tryd.prog) Tryd.underlying52 Tryd.underlying5 Tryd.underlying9 (Kd.own_of_R HO118.out); have hcz18_0 : w15.cell? ⟨gb115, 0, none⟩ = some (.int .u8 a0_0) := (blk_cell BK115.out 0).trans rfl; have hcz18_1 : w15.cell? ⟨gb115, 1, none⟩ = some (.int .u64 a0_1) := (blk_cell BK115.out 1).trans rfl; have hcz18_2 : w15.cell? ⟨gb115, 2, none⟩ = some (.string a0_2) := (blk_cell BK115.out 2).trans rfl; have hcz18_3 : w15.cell? ⟨gb115, 3, none⟩ = some (.slice A0_3 l0_3.length c0_3) := (blk_cell BK115.out 3).trans rfl; have hfz18_0 := blk_frozen BK115.out 0; have hfz18_1 := blk_frozen BK115.out 1; have hfz18_2 := blk_frozen BK115.out 2; have hfz18_3 := blk_frozen BK115.out 3))
       go_loopg [4, 27] kj10 (fun kq v4 v27 w' => ∃ (x4_3 : ByteArray) (x27_3 : Int), v4 = .string x4_3 ∧ v27 = .int .i64 x27_3 ∧ Aside0 (spec_SigOf.l0 kq x3_10 x4_3 l0_3 (l0_3.length : Int) x27_3 = some r) ∧ Aside0 (kq ≤ kj10) ∧ Aside0 (w'.heap[gb115]? = some (.cells #[.int .u8 a0_0, .int .u64 a0_1, .string a0_2, (.slice A0_3 l0_3.length c0_3)] 30 (0, 0))) ∧ Aside0 (Below w.heap.size w w'))
       case atStart => exact ⟨(strOfNums y116), (0), (by first | rfl | (simp; done) | (simp [*]; done)), (by first | rfl | (simp; done) | (simp [*]; done)), H', ⟨Nat.le_refl _⟩, ⟨by (with_reducible repeat (first | refine blk_drewN ?_ _ | refine blk_drew ?_ | refine blk_alloc ?_ _)); exact BK115.out⟩, ⟨by repeat (first | (with_reducible first | exact HB.out | apply below_alloc | apply pw_below_drewN | apply below_drew1 | refine below_set ?_ GE115.out) | exact HB.out)⟩⟩
       case round =>
        clear H'
        (try clear c1); (try clear hcv1); (try clear c2); (try clear c2b0); (try clear c2b1); (try clear p2); (try clear c3); (try clear c3b0); (try clear c3b1); (try clear c3b2); (try clear c9); (try clear c9b0); (try clear c9b1); (try clear c10); (try clear c13); (try clear c13b0); (try clear c13b1); (try clear hcv17); (try clear hcz12_0); (try clear hcz12_1); (try clear hcz12_2); (try clear hcz12_3); (try clear hcz14_0); (try clear hcz14_1); (try clear hcz14_2); (try clear hcz14_3); (try clear hcz18_0); (try clear hcz18_1); (try clear hcz18_2); (try clear hcz18_3); (try clear hcz5_0); (try clear hcz5_1); (try clear hcz5_2); (try clear hcz5_3); (try clear hcz8_0); (try clear hcz8_1); (try clear hcz8_2); (try clear hcz8_3); (try clear hfz12_0); (try clear hfz12_1); (try clear hfz12_2); (try clear hfz12_3); (try clear hfz14_0); (try clear hfz14_1); (try clear hfz14_2); (try clear hfz14_3); (try clear hfz18_0); (try clear hfz18_1); (try clear hfz18_2); (try clear hfz18_3); (try clear hfz5_0); (try clear hfz5_1); (try clear hfz5_2); (try clear hfz5_3); (try clear hfz8_0); (try clear hfz8_1); (try clear hfz8_2); (try clear hfz8_3); (try clear p2)
        obtain ⟨x4_3, x27_3, rfl, rfl, HA, HK3, BK115, HB⟩ := hrel
        cases gk with
        | zero => exact absurd HA.out (by simp [spec_SigOf.l0])
        | succ k3 =>
         have H := HA.out
         clear HA
         simp only [spec_SigOf.l0] at H
         by_cases c19 : x27_3 < (l0_3.length : Int)
         ·rw [if_pos c19] at H
          have c19b0 : decide (x27_3 < (l0_3.length : Int)) = true := decide_eq_true c19
          clear c19
          by_cases c20 : 0 ≤ x27_3
          ·rw [if_pos c20] at H
           have c20b0 : decide (0 ≤ x27_3) = true := decide_eq_true c20
           clear c20
           by_cases c21 : x27_3 < (l0_3.length : Int)
           ·rw [if_pos c21] at H
            have c21b0 : decide (x27_3 < (l0_3.length : Int)) = true := decide_eq_true c21
            clear c21
            replace H := Option.bind_eq_some_iff.mp H
            obtain ⟨t121, A220, H⟩ := H
            replace H : (if x4_3.size + t121.size ≤ 9223372036854775807 then (spec_SigOf.l0 k3 x3_10 (x4_3 ++ t121) l0_3 (l0_3.length : Int) (wrap64 (x27_3 + 1))) else (none)) = some r := H
            have A22 := Aside0.mk A220
            clear A220
            by_cases c23 : x4_3.size + t121.size ≤ 9223372036854775807
            ·rw [if_pos c23] at H
             have c23b0 := eq_true c23
             have c23b1 : decide (x4_3.size + t121.size ≤ 9223372036854775807) = true := decide_eq_true c23
             try have c23b2 : (9223372036854775807 < x4_3.size + t121.size) = False := eq_false (Nat.not_lt.2 c23)
             try (have c23b3 := c23b2; simp only [ByteArray.size_append] at c23b3)
             try (have c23b4 := c23b3; simp only [show ∀ c : UInt8, (ByteArray.mk #[c]).size = 1 from fun _ => rfl] at c23b4)
             have H' := Aside0.mk H
             clear H
             have p119 : 0 ≤ (x27_3 : Int) := of_decide_eq_true (by first | (with_reducible assumption) | assumption)
             have q119 : x27_3 < (l0_3.length : Int) := of_decide_eq_true (by first | (with_reducible assumption) | assumption)
             obtain ⟨ad119, A119_3, c119_3, e119, hx119_0, hx119_1, hx119_2, hx119_3, hl119_3, hi119_3⟩ := at_T30 HR0_3.out x27_3 p119 q119
             cases e119
             replace hx119_0 := (HB.out.cell (World.block_lt_of_cell? w _ hx119_0)).trans hx119_0
             replace hx119_1 := (HB.out.cell (World.block_lt_of_cell? w _ hx119_1)).trans hx119_1
             replace hx119_2 := (HB.out.cell (World.block_lt_of_cell? w _ hx119_2)).trans hx119_2
             replace hx119_3 := (HB.out.cell (World.block_lt_of_cell? w _ hx119_3)).trans hx119_3
             have HR119_3 := Aside0.mk hi119_3
             have HC119_3 := Aside0.mk hl119_3
             clear hi119_3 hl119_3
             replace p119 := eq_true p119
             replace q119 := eq_true q119
             go_wp2_with (first | ((with_reducible refine gate_dst (N := 6) rfl ?_); refine box_event ?hg (N := 6) ?hd (cs := #[.int .u8 0, .int .u64 0, .string (⟨#[]⟩ : ByteArray), .slice none 0 0]) (t := 30) ?hr ?_; (case hd => rfl); (case hg => rfl); (case hr => first | (go_simp; done) | (go_simp; rfl)); intro gb120 hg w24 hbox hb; have n0_ := Aside0.mk (blk_below (g := gb115) (o := .cells #[.int .u8 a0_0, .int .u64 a0_1, .string a0_2, .slice (some ad119) l0_3.length c0_3] 30 (0, 0)) (by (with_reducible repeat (first | refine blk_drewN ?_ _ | refine blk_drew ?_ | refine blk_alloc ?_ _)); exact BK115.out) hb); have n1_ := Aside0.mk (below_step (by repeat (first | (with_reducible first | exact HB.out | apply below_alloc | apply pw_below_drewN | apply below_drew1 | refine below_set ?_ GE115.out) | exact HB.out)) hb); have n2_ := Aside0.mk (hbox); have n3_ := Aside0.mk ((by rw [hg]; exact (below_size (by repeat (first | (with_reducible first | exact HB.out | apply below_alloc | apply pw_below_drewN | apply below_drew1 | refine below_set ?_ GE115.out) | exact HB.out))) : w.heap.size ≤ gb120)); have n4_ := Aside0.mk ((by rw [hg]; exact (below_size (by repeat (first | (with_reducible first | exact HB.out | apply below_alloc | apply pw_below_drewN | apply below_drew1 | refine below_set ?_ GE115.out) | exact HB.out))) : w.heap.size ≤ gb120)); have n5_ := Aside0.mk ((by rw [hg]; exact Nat.ne_of_lt (blk_lt (g := gb115) (o := .cells #[.int .u8 a0_0, .int .u64 a0_1, .string a0_2, .slice (some ad119) l0_3.length c0_3] 30 (0, 0)) (by (with_reducible repeat (first | refine blk_drewN ?_ _ | refine blk_drew ?_ | refine blk_alloc ?_ _)); exact BK115.out)) : gb115 ≠ gb120)); have n6_ := Aside0.mk ((by rw [hg]; exact Nat.ne_of_gt (blk_lt (g := gb115) (o := .cells #[.int .u8 a0_0, .int .u64 a0_1, .string a0_2, .slice (some ad119) l0_3.length c0_3] 30 (0, 0)) (by (with_reducible repeat (first | refine blk_drewN ?_ _ | refine blk_drew ?_ | refine blk_alloc ?_ _)); exact BK115.out)) : gb120 ≠ gb115)); clear BK115; clear HB; have BK115 := n0_; have HB := n1_; have BK120 := n2_; have GW120 := n3_; have GE120 := n4_; have NB115_120 := n5_; have NB120_115 := n6_; clear n0_ n1_ n2_ n3_ n4_ n5_ n6_; clear hb hbox hg; have hnb25 := NB120_115.out; have hnc25 := NB115_120.out; have hcz26_0 : w24.cell? ⟨gb120, 0, none⟩ = some (.int .u8 0) := (blk_cell BK120.out 0).trans rfl; have hcz26_1 : w24.cell? ⟨gb120, 1, none⟩ = some (.int .u64 0) := (blk_cell BK120.out 1).trans rfl; have hcz26_2 : w24.cell? ⟨gb120, 2, none⟩ = some (.string (⟨#[]⟩ : ByteArray)) := (blk_cell BK120.out 2).trans rfl; have hcz26_3 : w24.cell? ⟨gb120, 3, none⟩ = some (.slice none 0 0) := (blk_cell BK120.out 3).trans rfl; have hfz26_0 := blk_frozen BK120.out 0; have hfz26_1 := blk_frozen BK120.out 1; have hfz26_2 := blk_frozen BK120.out 2; have hfz26_3 := blk_frozen BK120.out 3) | ((with_reducible refine gate_callee (f := 13) rfl ?_); refine goesL_ (some 33) rfl rfl Tryd.func13 (by kernel_rfl) rfl #[.agg #[.int .u8 ((rd_T30 l0_3 x27_3).f0), .int .u64 ((rd_T30 l0_3 x27_3).f1), .string ((rd_T30 l0_3 x27_3).f2), .slice A119_3 ((rd_T30 l0_3 x27_3).f3).length c119_3]] rfl (by (try simp only [List.map_toArray, List.map_cons, List.map_nil]); first | done | rfl) ?_; (with_reducible refine (ih k3 (by have := HJ5.out; have := HJ10.out; have := HK3.out; omega) ((rd_T30 l0_3 x27_3).f0) ((rd_T30 l0_3 x27_3).f1) ((rd_T30 l0_3 x27_3).f2) _ _ ((rd_T30 l0_3 x27_3).f3) t121 _ ?side1 ?side2 A22.out).mono ?_); (case side1 => exact Kd.C_below HR119_3.out (by repeat (first | (with_reducible first | exact HB.out | apply below_alloc | apply pw_below_drewN | apply below_drew1 | refine below_set ?_ GE115.out | refine below_set ?_ GE120.out) | exact HB.out))); (case side2 => exact HC119_3.out); rintro e w27 ⟨rfl, hb⟩; refine ⟨_, rfl, ?_⟩; have n0_ := Aside0.mk (blk_below (g := gb115) (o := .cells #[.int .u8 a0_0, .int .u64 a0_1, .string a0_2, .slice (some ad119) l0_3.length c0_3] 30 (0, 0)) (by (with_reducible repeat (first | refine blk_drewN ?_ _ | refine blk_drew ?_ | refine blk_alloc ?_ _)); refine blk_far ?_ NB115_120.out _; (with_reducible repeat (first | refine blk_drewN ?_ _ | refine blk_drew ?_ | refine blk_alloc ?_ _)); refine blk_far ?_ NB115_120.out _; (with_reducible repeat (first | refine blk_drewN ?_ _ | refine blk_drew ?_ | refine blk_alloc ?_ _)); refine blk_far ?_ NB115_120.out _; (with_reducible repeat (first | refine blk_drewN ?_ _ | refine blk_drew ?_ | refine blk_alloc ?_ _)); refine blk_far ?_ NB115_120.out _; (with_reducible repeat (first | refine blk_drewN ?_ _ | refine blk_drew ?_ | refine blk_alloc ?_ _)); exact BK115.out) hb); have n1_ := Aside0.mk (blk_below (g := gb120) (o := .cells #[.int .u8 ((rd_T30 l0_3 x27_3).f0), .int .u64 ((rd_T30 l0_3 x27_3).f1), .string ((rd_T30 l0_3 x27_3).f2), .slice A119_3 ((rd_T30 l0_3 x27_3).f3).length c119_3] 30 (0, 0)) (by (with_reducible repeat (first | refine blk_drewN ?_ _ | refine blk_drew ?_ | refine blk_alloc ?_ _)); refine blk_put (cs := #[.int .u8 ((rd_T30 l0_3 x27_3).f0), .int .u64 ((rd_T30 l0_3 x27_3).f1), .string ((rd_T30 l0_3 x27_3).f2), .slice none 0 0]) ?_ 3 _ rfl; (with_reducible repeat (first | refine blk_drewN ?_ _ | refine blk_drew ?_ | refine blk_alloc ?_ _)); refine blk_put (cs := #[.int .u8 ((rd_T30 l0_3 x27_3).f0), .int .u64 ((rd_T30 l0_3 x27_3).f1), .string (⟨#[]⟩ : ByteArray), .slice none 0 0]) ?_ 2 _ rfl; (with_reducible repeat (first | refine blk_drewN ?_ _ | refine blk_drew ?_ | refine blk_alloc ?_ _)); refine blk_put (cs := #[.int .u8 ((rd_T30 l0_3 x27_3).f0), .int .u64 0, .string (⟨#[]⟩ : ByteArray), .slice none 0 0]) ?_ 1 _ rfl; (with_reducible repeat (first | refine blk_drewN ?_ _ | refine blk_drew ?_ | refine blk_alloc ?_ _)); refine blk_put (cs := #[.int .u8 0, .int .u64 0, .string (⟨#[]⟩ : ByteArray), .slice none 0 0]) ?_ 0 _ rfl; (with_reducible repeat (first | refine blk_drewN ?_ _ | refine blk_drew ?_ | refine blk_alloc ?_ _)); exact BK120.out) hb); have n2_ := Aside0.mk (below_step (by repeat (first | (with_reducible first | exact HB.out | apply below_alloc | apply pw_below_drewN | apply below_drew1 | refine below_set ?_ GE115.out | refine below_set ?_ GE120.out) | exact HB.out)) hb); clear BK115; clear BK120; clear HB; have BK115 := n0_; have BK120 := n1_; have HB := n2_; clear n0_ n1_ n2_; (try clear hb); (try clear hb2); (try clear hk); (try clear hi)))
             go_roundg k3
             case measure => have := HJ5.out; have := HJ10.out; have := HK3.out; omega
             case rel => exact ⟨(x4_3 ++ t121), (wrap64 (x27_3 + 1)), (by first | rfl | (simp; done) | (simp [*]; done)), (by first | rfl | (simp; done) | (simp [*]; done)), H', ⟨by have := HJ5.out; have := HJ10.out; have := HK3.out; omega⟩, ⟨by (with_reducible repeat (first | refine blk_drewN ?_ _ | refine blk_drew ?_ | refine blk_alloc ?_ _)); exact BK115.out⟩, ⟨by repeat (first | (with_reducible first | exact HB.out | apply below_alloc | apply pw_below_drewN | apply below_drew1 | refine below_set ?_ GE115.out | refine below_set ?_ GE120.out) | exact HB.out)⟩⟩
            ·rw [if_neg c23] at H
             exact absurd H (by simp)
           ·rw [if_neg c21] at H
            exact absurd H (by simp)
          ·rw [if_neg c20] at H
           exact absurd H (by simp)
         ·rw [if_neg c19] at H
          have c19b0 : decide (x27_3 < (l0_3.length : Int)) = false := decide_eq_false c19
          clear c19
          by_cases c28 : x4_3.size + x3_10.size ≤ 9223372036854775807
          ·rw [if_pos c28] at H
           have c28b0 := eq_true c28
           have c28b1 : decide (x4_3.size + x3_10.size ≤ 9223372036854775807) = true := decide_eq_true c28
           try have c28b2 : (9223372036854775807 < x4_3.size + x3_10.size) = False := eq_false (Nat.not_lt.2 c28)
           try (have c28b3 := c28b2; simp only [ByteArray.size_append] at c28b3)
           try (have c28b4 := c28b3; simp only [show ∀ c : UInt8, (ByteArray.mk #[c]).size = 1 from fun _ => rfl] at c28b4)
           obtain rfl := Option.some.inj H
           go_wp2
           go_ret
           exact ⟨by rfl, by repeat (first | (with_reducible first | exact HB.out | apply below_alloc | apply pw_below_drewN | apply below_drew1 | refine below_set ?_ GE115.out) | exact HB.out)⟩
          ·rw [if_neg c28] at H
           exact absurd H (by simp)
    ·replace c10 := Bool.eq_false_iff.mpr c10
     subst c10
     have H1 : (some (strOfNums (([a0_0] : List Int)))) = some r := by rw [if_neg (show ¬ (false = true) by decide)] at H; exact H
     clear H
     have H := H1
     clear H1
     obtain ⟨y122, hy122⟩ : ∃ y_ : List Int, y_ = (([a0_0] : List Int)) := ⟨_, rfl⟩
     replace H : (some (strOfNums y122)) = some r := by first | (rw [hy122]; with_reducible exact H) | (have H2_ := (Option.bind_some _ _).symm.trans H; rw [hy122]; with_reducible exact H2_) | (have H2_ := (Option.bind_some _ _).symm.trans H; with_reducible exact H2_) | with_reducible exact H | (rw [hy122]; exact H) | exact H
     have Ny122 := Aside0.mk hy122
     clear hy122
     obtain rfl := Option.some.inj H
     have hcz29_0 : wc.cell? ⟨gb115, 0, none⟩ = some (.int .u8 a0_0) := (blk_cell BK115.out 0).trans rfl
     have hcz29_1 : wc.cell? ⟨gb115, 1, none⟩ = some (.int .u64 a0_1) := (blk_cell BK115.out 1).trans rfl
     have hcz29_2 : wc.cell? ⟨gb115, 2, none⟩ = some (.string a0_2) := (blk_cell BK115.out 2).trans rfl
     have hcz29_3 : wc.cell? ⟨gb115, 3, none⟩ = some (.slice A0_3 l0_3.length c0_3) := (blk_cell BK115.out 3).trans rfl
     have hfz29_0 := blk_frozen BK115.out 0
     have hfz29_1 := blk_frozen BK115.out 1
     have hfz29_2 := blk_frozen BK115.out 2
     have hfz29_3 := blk_frozen BK115.out 3
     go_wp2_with (first | ((with_reducible refine gate_dst (N := 41) rfl ?_); refine Kd.R_lit (Kd.int .u8) _ 5 ?hg (N := 41) ?hd (xs := ([a0_0] : List Int)) (inner := [.int .u8 a0_0]) (ok := fun _ => True) (okp := fun _ => True) ?hr ?hp (fun _ hk => hk) trivial (Below.refl _ _) (Nat.le_refl _) (by simp) ?_; (case hd => rfl); (case hg => rfl); (case hr => first | (go_simp; done) | (go_simp; rfl)); (case hp => exact (Reps.one (show Kd.M (Kd.int .u8) _ _ _ a0_0 [.int .u8 a0_0] from rfl) (Reps.none _ _))); intro v123 w30 ho31 hb hg_ hnew_; clear hg_ hnew_; (first | rw [← Ny122.out] at ho31 | (simp only [Int.reduceToNat] at ho31; rw [← Ny122.out] at ho31)); have n0_ := Aside0.mk (Kd.R_lower ho31 (below_size (by repeat (first | (with_reducible first | exact HB.out | apply below_alloc | apply pw_below_drewN | apply below_drew1 | refine below_set ?_ GE115.out) | exact HB.out)))); have n1_ := Aside0.mk (blk_below (g := gb115) (o := .cells #[.int .u8 a0_0, .int .u64 a0_1, .string a0_2, .slice A0_3 l0_3.length c0_3] 30 (0, 0)) (by (with_reducible repeat (first | refine blk_drewN ?_ _ | refine blk_drew ?_ | refine blk_alloc ?_ _)); exact BK115.out) hb); have n2_ := Aside0.mk (below_step (by repeat (first | (with_reducible first | exact HB.out | apply below_alloc | apply pw_below_drewN | apply below_drew1 | refine below_set ?_ GE115.out) | exact HB.out)) hb); clear BK115; clear HB; have HO124 := n0_; have BK115 := n1_; have HB := n2_; clear n0_ n1_ n2_; clear hb ho31; have hcv32 := own_string (P := Tryd.prog) Tryd.underlying52 Tryd.underlying5 Tryd.underlying9 (Kd.own_of_R HO124.out)))
     go_ret
     exact ⟨by rfl, by repeat (first | (with_reducible first | exact HB.out | apply below_alloc | apply pw_below_drewN | apply below_drew1 | refine below_set ?_ GE115.out) | exact HB.out)⟩

end Go.Proofs.YtoaehanfknjngaaDoor.Q

-- Written by a program of this session out of the translation; Lean checks it.
namespace Go.Proofs.YtoaehanfknjngaaDoor.Q
open Go.RowKit Go.Proofs.YtoaehanfknjngaaDoor.L Go.Proofs.YtoaehanfknjngaaDoor.Gd Go.Proofs.YtoaehanfknjngaaDoor.Sb Go.Proofs.YtoaehanfknjngaaDoor.Vs Go.Proofs.YtoaehanfknjngaaDoorW.PrintWords Go.Proofs.YtoaehanfknjngaaDoorW.PrintLast Go.Proofs.YtoaehanfknjngaaDoorW.PrintMore
attribute [local go_sem] max2_int min2_int max_two min_two max_three min_three max_four min_four   -- for this text's walks alone
set_option linter.unusedVariables false
set_option linter.unusedSimpArgs false

def spec_First.j0 : Nat → ByteArray → Bool → Option (ByteArray × ByteArray × Bool)
 | 0, _, _ => none
 | k + 1, x0, x13 => if x13 = true then (if 1 + x0.size ≤ 9223372036854775807 then ((spec_complete.f k ((⟨#[97]⟩ : ByteArray) ++ x0)).bind fun t126 => (if (wrap64 (t126 - 1)) ≤ 0 then (some ((⟨#[]⟩ : ByteArray), (⟨#[]⟩ : ByteArray), false)) else (if 0 ≤ (wrap64 (t126 - 1)) then (if (wrap64 (t126 - 1)) ≤ (x0.size : Int) then (some (x0.extract 0 ((wrap64 (t126 - 1)) : Int).toNat, x0.extract ((wrap64 (t126 - 1)) : Int).toNat x0.size, true)) else (none)) else (none)))) else (none)) else ((spec_complete.f k x0).bind fun t127 => (if t127 ≤ 0 then (some ((⟨#[]⟩ : ByteArray), (⟨#[]⟩ : ByteArray), false)) else (if 0 ≤ t127 then (if t127 ≤ (x0.size : Int) then (some (x0.extract 0 (t127 : Int).toNat, x0.extract (t127 : Int).toNat x0.size, true)) else (none)) else (none))))
def spec_First.f (k : Nat) (a0 : ByteArray) : Option (ByteArray × ByteArray × Bool) := if (a0.size : Int) > 1 then (if 0 < (a0.size : Int) then (spec_First.j0 k a0 ((bt a0 0) == 123)) else (none)) else (spec_First.j0 k a0 false)
theorem spec_First.mono_l : ∀ k, (∀ y0 y1, LeO (spec_First.j0 k y0 y1) (spec_First.j0 (k + 1) y0 y1))
 | 0 => fun _ _ r h => by simp [spec_First.j0] at h
 | k + 1 => by
  have ih0 := spec_First.mono_l k
  ·intro y0 y1
   unfold spec_First.j0
   repeat' first
   | (with_reducible exact ih0 _ _)
   | (with_reducible exact spec_complete.mono _ _)
   | (with_reducible exact LeO.refl _)
   | (with_reducible exact LeO.none _)
   | (with_reducible refine LeO.ite ?_ ?_)
   | (with_reducible refine LeO.bind ?_ (fun _ => ?_))
   | exact ih0 _ _
   | exact spec_complete.mono _ _
   | exact LeO.none _
   | refine LeO.ite ?_ ?_
   | refine LeO.bind ?_ (fun _ => ?_)
theorem spec_First.mono : ∀ a0 k, LeO (spec_First.f k a0) (spec_First.f (k + 1) a0) := by
 intro a0 k
 have ih0 := spec_First.mono_l k
 unfold spec_First.f
 repeat' first
   | (with_reducible exact ih0 _ _)
   | (with_reducible exact spec_complete.mono _ _)
   | (with_reducible exact LeO.refl _)
   | (with_reducible exact LeO.none _)
   | (with_reducible refine LeO.ite ?_ ?_)
   | (with_reducible refine LeO.bind ?_ (fun _ => ?_))
   | exact ih0 _ _
   | exact spec_complete.mono _ _
   | exact LeO.none _
   | refine LeO.ite ?_ ?_
   | refine LeO.bind ?_ (fun _ => ?_)
set_option maxHeartbeats 8000000 in
set_option maxRecDepth 100000 in
theorem spec_First.calls (k : Nat) (a0 : ByteArray) (r1 : ByteArray) (r2 : ByteArray) (r3 : Bool) (w : World) (h : spec_First.f k a0 = some (r1, r2, r3)) :
  Calls Tryd.prog 24 #[.string a0] w fun e w' => e = .returned (.tuple #[.string r1, .string r2, .bool r3]) ∧ Drawn0 w w' := by
 have H : (if (a0.size : Int) > 1 then (if 0 < (a0.size : Int) then (spec_First.j0 k a0 ((bt a0 0) == 123)) else (none)) else (spec_First.j0 k a0 false)) = some (r1, r2, r3) := h
 clear h
 have HC2 := Aside0.mk H
 clear H
 go_enter Tryd.func24, Tryd.ntmps24
 go_upto_region 2 with (fail)
 repeat (go_quiet (fail); go_upto_region 2 with (fail))
 go_cut [13] (fun v13 wc => ∃ (kq : Nat) (x13_1 : Bool), v13 = .bool x13_1 ∧ Aside0 (spec_First.j0 kq a0 x13_1 = some (r1, r2, r3)) ∧ Aside0 (kq ≤ k) ∧ Drawn0 w wc)
 case first =>
  have H := HC2.out
  clear HC2
  by_cases c3 : (a0.size : Int) > 1
  ·rw [if_pos c3] at H
   have c3b0 : decide (1 < (a0.size : Int)) = true := decide_eq_true c3
   have c3b1 : decide (1 < a0.size) = true := decide_eq_true (by omega)
   clear c3
   (first | rw [c3b0] | (simp only [i64_w, i32_w]; rw [c3b0]) | skip)
   by_cases c4 : 0 < (a0.size : Int)
   ·rw [if_pos c4] at H
    have c4b0 : decide (0 < (a0.size : Int)) = true := decide_eq_true c4
    have c4b1 : decide (0 < a0.size) = true := decide_eq_true (by omega)
    clear c4
    have H' := Aside0.mk H
    clear H
    have p5 : 0 ≤ (0 : Int) := (by omega)
    have q5 : 0 < a0.size := (by have : (0 : Int) < (a0.size : Int) := of_decide_eq_true (by first | (with_reducible assumption) | assumption); omega)
    have hx5 : ∀ h : 0 < a0.size, ((a0[0]'h).toNat : Int) = bt a0 0 := bt_at a0 0
    clear p5
    have qi5 : (0 < (a0.size : Int)) = True := eq_true (of_decide_eq_true (by first | (with_reducible assumption) | assumption))
    replace q5 := eq_true q5
    go_wp2
    repeat (go_quiet (fail); try go_wp2)
    go_meet
    case rel => exact ⟨_, (((bt a0 0) == 123)), (by first | rfl | (simp; done) | (simp [*]; done)), H', ⟨by first | omega | exact Nat.le_refl _⟩, by repeat (first | exact Drawn0.refl _ | apply Drawn0.step)⟩
   ·rw [if_neg c4] at H
    exact absurd H (by simp)
  ·rw [if_neg c3] at H
   have c3b0 : decide (1 < (a0.size : Int)) = false := decide_eq_false c3
   have c3b1 : decide (1 < a0.size) = false := decide_eq_false (by omega)
   clear c3
   (first | rw [c3b0] | (simp only [i64_w, i32_w]; rw [c3b0]) | skip)
   have H' := Aside0.mk H
   clear H
   go_wp2
   repeat (go_quiet (fail); try go_wp2)
   go_meet
   case rel => exact ⟨_, (false), (by first | rfl | (simp; done) | (simp [*]; done)), H', ⟨by first | omega | exact Nat.le_refl _⟩, by repeat (first | exact Drawn0.refl _ | apply Drawn0.step)⟩
 case rest =>
  clear HC2
  (try clear c2); (try clear p2); (try clear c3); (try clear c3b0); (try clear c3b1); (try clear c4); (try clear c4b0); (try clear c4b1); (try clear p5); (try clear q5); (try clear hx5); (try clear qi5); (try clear p5); (try clear q5)
  obtain ⟨kq, x13_1, rfl, HA, HJ1, ⟨mc1, rfl⟩⟩ := hcut
  cases kq with
  | zero => exact absurd HA.out (by simp [spec_First.j0])
  | succ kj1 =>
   have H := HA.out
   clear HA
   simp only [spec_First.j0] at H
   by_cases c6 : x13_1 = true
   ·subst c6
    have H1 : (if 1 + a0.size ≤ 9223372036854775807 then ((spec_complete.f kj1 ((⟨#[97]⟩ : ByteArray) ++ a0)).bind fun t126 => (if (wrap64 (t126 - 1)) ≤ 0 then (some ((⟨#[]⟩ : ByteArray), (⟨#[]⟩ : ByteArray), false)) else (if 0 ≤ (wrap64 (t126 - 1)) then (if (wrap64 (t126 - 1)) ≤ (a0.size : Int) then (some (a0.extract 0 ((wrap64 (t126 - 1)) : Int).toNat, a0.extract ((wrap64 (t126 - 1)) : Int).toNat a0.size, true)) else (none)) else (none)))) else (none)) = some (r1, r2, r3) := by rw [if_pos rfl] at H; exact H
    clear H
    have H := H1
    clear H1
    by_cases c7 : 1 + a0.size ≤ 9223372036854775807
    ·rw [if_pos c7] at H
     have c7b0 := eq_true c7
     have c7b1 : decide (1 + a0.size ≤ 9223372036854775807) = true := decide_eq_true c7
     try have c7b2 : (9223372036854775807 < 1 + a0.size) = False := eq_false (Nat.not_lt.2 c7)
     try (have c7b3 := c7b2; simp only [ByteArray.size_append] at c7b3)
     try (have c7b4 := c7b3; simp only [show ∀ c : UInt8, (ByteArray.mk #[c]).size = 1 from fun _ => rfl] at c7b4)
     replace H := Option.bind_eq_some_iff.mp H
     obtain ⟨t126, A80, H⟩ := H
     replace H : (if (wrap64 (t126 - 1)) ≤ 0 then (some ((⟨#[]⟩ : ByteArray), (⟨#[]⟩ : ByteArray), false)) else (if 0 ≤ (wrap64 (t126 - 1)) then (if (wrap64 (t126 - 1)) ≤ (a0.size : Int) then (some (a0.extract 0 ((wrap64 (t126 - 1)) : Int).toNat, a0.extract ((wrap64 (t126 - 1)) : Int).toNat a0.size, true)) else (none)) else (none))) = some (r1, r2, r3) := H
     have A8 := Aside0.mk A80
     clear A80
     by_cases c9 : (wrap64 (t126 - 1)) ≤ 0
     ·rw [if_pos c9] at H
      have c9b0 : decide ((wrap64 (t126 - 1)) ≤ 0) = true := decide_eq_true c9
      clear c9
      simp only [Option.some.injEq, Prod.mk.injEq] at H
      obtain ⟨rfl, rfl, rfl⟩ := H
      go_wp2_with (first | (go_at_call 29; (with_reducible refine (spec_complete.calls kj1 ((⟨#[97]⟩ : ByteArray) ++ a0) t126 _ A8.out).mono ?_); rintro e w' ⟨rfl, ⟨nd, rfl⟩⟩; (try first | exact ⟨rfl, _, World.drewN_drewN _ _ _⟩ | exact ⟨rfl, _, Eq.trans (World.drewN_drewN _ _ _) (congrArg (World.drewN _) (Nat.add_assoc _ _ _))⟩)))
      repeat (go_quiet (first | (go_at_call 29; (with_reducible refine (spec_complete.calls kj1 ((⟨#[97]⟩ : ByteArray) ++ a0) t126 _ A8.out).mono ?_); rintro e w' ⟨rfl, ⟨nd, rfl⟩⟩; (try first | exact ⟨rfl, _, World.drewN_drewN _ _ _⟩ | exact ⟨rfl, _, Eq.trans (World.drewN_drewN _ _ _) (congrArg (World.drewN _) (Nat.add_assoc _ _ _))⟩))); try go_wp2_with (first | (go_at_call 29; (with_reducible refine (spec_complete.calls kj1 ((⟨#[97]⟩ : ByteArray) ++ a0) t126 _ A8.out).mono ?_); rintro e w' ⟨rfl, ⟨nd, rfl⟩⟩; (try first | exact ⟨rfl, _, World.drewN_drewN _ _ _⟩ | exact ⟨rfl, _, Eq.trans (World.drewN_drewN _ _ _) (congrArg (World.drewN _) (Nat.add_assoc _ _ _))⟩))))
      go_ret3
      exact ⟨by first | rfl | (simp; done) | (simp [*]; done), by repeat (first | exact Drawn0.refl _ | apply Drawn0.step)⟩
     ·rw [if_neg c9] at H
      have c9b0 : decide ((wrap64 (t126 - 1)) ≤ 0) = false := decide_eq_false c9
      clear c9
      obtain ⟨ji10, hji10⟩ : ∃ j_ : Int, (wrap64 (t126 - 1)) = j_ := ⟨_, rfl⟩
      replace H : (if 0 ≤ (ji10) then (if (ji10) ≤ (a0.size : Int) then (some (a0.extract 0 ((ji10) : Int).toNat, a0.extract ((ji10) : Int).toNat a0.size, true)) else (none)) else (none)) = some (r1, r2, r3) := by first | (rw [hji10] at H; exact H) | (simp only [hji10] at H ⊢; exact H)
      (try rw [hji10] at c9b0)
      (try rw [hji10] at A8)
      have hji10w : (IntKind.i64.wrap (t126 - 1)) = ji10 := (i64_w _).trans hji10
      by_cases c11 : 0 ≤ (ji10)
      ·rw [if_pos c11] at H
       have c11b0 := eq_true c11
       have c11b1 : decide (0 ≤ (ji10)) = true := decide_eq_true c11
       clear c11
       by_cases c12 : (ji10) ≤ (a0.size : Int)
       ·rw [if_pos c12] at H
        have c12b0 := eq_true c12
        have c12b1 : decide ((ji10) ≤ (a0.size : Int)) = true := decide_eq_true c12
        clear c12
        have c13b0 := eq_true (of_decide_eq_true (by first | (with_reducible assumption) | assumption) : 0 ≤ (ji10))
        have c14b0 := eq_true (of_decide_eq_true (by first | (with_reducible assumption) | assumption) : (ji10) ≤ (a0.size : Int))
        simp only [Option.some.injEq, Prod.mk.injEq] at H
        obtain ⟨rfl, rfl, rfl⟩ := H
        go_wp2_with (first | (go_at_call 29; (with_reducible refine (spec_complete.calls kj1 ((⟨#[97]⟩ : ByteArray) ++ a0) t126 _ A8.out).mono ?_); rintro e w' ⟨rfl, ⟨nd, rfl⟩⟩; (try first | exact ⟨rfl, _, World.drewN_drewN _ _ _⟩ | exact ⟨rfl, _, Eq.trans (World.drewN_drewN _ _ _) (congrArg (World.drewN _) (Nat.add_assoc _ _ _))⟩)))
        repeat (go_quiet (first | (go_at_call 29; (with_reducible refine (spec_complete.calls kj1 ((⟨#[97]⟩ : ByteArray) ++ a0) t126 _ A8.out).mono ?_); rintro e w' ⟨rfl, ⟨nd, rfl⟩⟩; (try first | exact ⟨rfl, _, World.drewN_drewN _ _ _⟩ | exact ⟨rfl, _, Eq.trans (World.drewN_drewN _ _ _) (congrArg (World.drewN _) (Nat.add_assoc _ _ _))⟩))); try go_wp2_with (first | (go_at_call 29; (with_reducible refine (spec_complete.calls kj1 ((⟨#[97]⟩ : ByteArray) ++ a0) t126 _ A8.out).mono ?_); rintro e w' ⟨rfl, ⟨nd, rfl⟩⟩; (try first | exact ⟨rfl, _, World.drewN_drewN _ _ _⟩ | exact ⟨rfl, _, Eq.trans (World.drewN_drewN _ _ _) (congrArg (World.drewN _) (Nat.add_assoc _ _ _))⟩))))
        go_ret3
        exact ⟨by first | rfl | (simp; done) | (simp only [← hji10] <;> (first | rfl | simp)) | (simp [*]; done), by repeat (first | exact Drawn0.refl _ | apply Drawn0.step)⟩
       ·rw [if_neg c12] at H
        exact absurd H (by simp)
      ·rw [if_neg c11] at H
       exact absurd H (by simp)
    ·rw [if_neg c7] at H
     exact absurd H (by simp)
   ·replace c6 := Bool.eq_false_iff.mpr c6
    subst c6
    have H1 : ((spec_complete.f kj1 a0).bind fun t127 => (if t127 ≤ 0 then (some ((⟨#[]⟩ : ByteArray), (⟨#[]⟩ : ByteArray), false)) else (if 0 ≤ t127 then (if t127 ≤ (a0.size : Int) then (some (a0.extract 0 (t127 : Int).toNat, a0.extract (t127 : Int).toNat a0.size, true)) else (none)) else (none)))) = some (r1, r2, r3) := by rw [if_neg (show ¬ (false = true) by decide)] at H; exact H
    clear H
    have H := H1
    clear H1
    replace H := Option.bind_eq_some_iff.mp H
    obtain ⟨t127, A150, H⟩ := H
    replace H : (if t127 ≤ 0 then (some ((⟨#[]⟩ : ByteArray), (⟨#[]⟩ : ByteArray), false)) else (if 0 ≤ t127 then (if t127 ≤ (a0.size : Int) then (some (a0.extract 0 (t127 : Int).toNat, a0.extract (t127 : Int).toNat a0.size, true)) else (none)) else (none))) = some (r1, r2, r3) := H
    have A15 := Aside0.mk A150
    clear A150
    by_cases c16 : t127 ≤ 0
    ·rw [if_pos c16] at H
     have c16b0 : decide (t127 ≤ 0) = true := decide_eq_true c16
     clear c16
     simp only [Option.some.injEq, Prod.mk.injEq] at H
     obtain ⟨rfl, rfl, rfl⟩ := H
     go_wp2_with (first | (go_at_call 29; (with_reducible refine (spec_complete.calls kj1 a0 t127 _ A15.out).mono ?_); rintro e w' ⟨rfl, ⟨nd, rfl⟩⟩; (try first | exact ⟨rfl, _, World.drewN_drewN _ _ _⟩ | exact ⟨rfl, _, Eq.trans (World.drewN_drewN _ _ _) (congrArg (World.drewN _) (Nat.add_assoc _ _ _))⟩)))
     repeat (go_quiet (first | (go_at_call 29; (with_reducible refine (spec_complete.calls kj1 a0 t127 _ A15.out).mono ?_); rintro e w' ⟨rfl, ⟨nd, rfl⟩⟩; (try first | exact ⟨rfl, _, World.drewN_drewN _ _ _⟩ | exact ⟨rfl, _, Eq.trans (World.drewN_drewN _ _ _) (congrArg (World.drewN _) (Nat.add_assoc _ _ _))⟩))); try go_wp2_with (first | (go_at_call 29; (with_reducible refine (spec_complete.calls kj1 a0 t127 _ A15.out).mono ?_); rintro e w' ⟨rfl, ⟨nd, rfl⟩⟩; (try first | exact ⟨rfl, _, World.drewN_drewN _ _ _⟩ | exact ⟨rfl, _, Eq.trans (World.drewN_drewN _ _ _) (congrArg (World.drewN _) (Nat.add_assoc _ _ _))⟩))))
     go_ret3
     exact ⟨by first | rfl | (simp; done) | (simp [*]; done), by repeat (first | exact Drawn0.refl _ | apply Drawn0.step)⟩
    ·rw [if_neg c16] at H
     have c16b0 : decide (t127 ≤ 0) = false := decide_eq_false c16
     clear c16
     by_cases c17 : 0 ≤ t127
     ·rw [if_pos c17] at H
      have c17b0 := eq_true c17
      have c17b1 : decide (0 ≤ t127) = true := decide_eq_true c17
      clear c17
      by_cases c18 : t127 ≤ (a0.size : Int)
      ·rw [if_pos c18] at H
       have c18b0 := eq_true c18
       have c18b1 : decide (t127 ≤ (a0.size : Int)) = true := decide_eq_true c18
       clear c18
       have c19b0 := eq_true (of_decide_eq_true (by first | (with_reducible assumption) | assumption) : 0 ≤ t127)
       have c20b0 := eq_true (of_decide_eq_true (by first | (with_reducible assumption) | assumption) : t127 ≤ (a0.size : Int))
       simp only [Option.some.injEq, Prod.mk.injEq] at H
       obtain ⟨rfl, rfl, rfl⟩ := H
       go_wp2_with (first | (go_at_call 29; (with_reducible refine (spec_complete.calls kj1 a0 t127 _ A15.out).mono ?_); rintro e w' ⟨rfl, ⟨nd, rfl⟩⟩; (try first | exact ⟨rfl, _, World.drewN_drewN _ _ _⟩ | exact ⟨rfl, _, Eq.trans (World.drewN_drewN _ _ _) (congrArg (World.drewN _) (Nat.add_assoc _ _ _))⟩)))
       repeat (go_quiet (first | (go_at_call 29; (with_reducible refine (spec_complete.calls kj1 a0 t127 _ A15.out).mono ?_); rintro e w' ⟨rfl, ⟨nd, rfl⟩⟩; (try first | exact ⟨rfl, _, World.drewN_drewN _ _ _⟩ | exact ⟨rfl, _, Eq.trans (World.drewN_drewN _ _ _) (congrArg (World.drewN _) (Nat.add_assoc _ _ _))⟩))); try go_wp2_with (first | (go_at_call 29; (with_reducible refine (spec_complete.calls kj1 a0 t127 _ A15.out).mono ?_); rintro e w' ⟨rfl, ⟨nd, rfl⟩⟩; (try first | exact ⟨rfl, _, World.drewN_drewN _ _ _⟩ | exact ⟨rfl, _, Eq.trans (World.drewN_drewN _ _ _) (congrArg (World.drewN _) (Nat.add_assoc _ _ _))⟩))))
       go_ret3
       exact ⟨by first | rfl | (simp; done) | (simp [*]; done), by repeat (first | exact Drawn0.refl _ | apply Drawn0.step)⟩
      ·rw [if_neg c18] at H
       exact absurd H (by simp)
     ·rw [if_neg c17] at H
      exact absurd H (by simp)

end Go.Proofs.YtoaehanfknjngaaDoor.Q
