-- Written by a program of this session out of the translation; Lean checks it.
import Derived.Test.YtoldgnmgjpjapaaDoorQ0
import Derived.Test.YtoldgnmgjpjapaaDoorMt
import Derived.Test.YtoldgnmgjpjapaaDoorQ4
namespace Go.Proofs.YtoldgnmgjpjapaaDoor.Q
open Go.RowKit Go.Proofs.YtoldgnmgjpjapaaDoor.Mt Go.Proofs.YtoldgnmgjpjapaaDoorW.PrintWords Go.Proofs.YtoldgnmgjpjapaaDoorW.PrintLast Go.Proofs.YtoldgnmgjpjapaaDoor.Gt
set_option linter.unusedVariables false
set_option linter.unusedSimpArgs false

-- BY HAND: function 27 (dbus_formatMatchOptions), in Derived.Test.YtoldgnmgjpjapaaDoorMt

/-! ### dbus_DoorRule: function 16 -/
def dbus_DoorRule.f (l0 : List (S50)) : Option (ByteArray) := (dbus_formatMatchOptions.f l0).bind fun t135 => (some t135)
set_option maxHeartbeats 8000000 in
set_option maxRecDepth 100000 in
theorem dbus_DoorRule.calls (A0 : Option Addr) (c0 : Nat) (l0 : List (S50)) (r : ByteArray) (w : World) (hr0 : Kd.C k50 w A0 l0.length l0) (hc0 : l0.length ≤ c0) (h : dbus_DoorRule.f l0 = some r) :
  Calls Tryd.prog 16 #[.slice A0 l0.length c0] w fun e w' => e = .returned (.string r) ∧ Below w.heap.size w w' := by
 have HR0 := Aside0.mk hr0
 have HC0 := Aside0.mk hc0
 clear hr0 hc0
 have HB := Aside0.mk (Below.refl w.heap.size w)
 have H : ((dbus_formatMatchOptions.f l0).bind fun t135 => (some t135)) = some r := h
 clear h
 replace H := Option.bind_eq_some_iff.mp H
 obtain ⟨t135, A20, H⟩ := H
 replace H : (some t135) = some r := H
 have A2 := Aside0.mk A20
 clear A20
 obtain rfl := Option.some.inj H
 go_enter Tryd.func16, Tryd.ntmps16
 go_wp2_with (first | ((with_reducible refine gate_callee (f := 27) rfl ?_); refine goesL_ (some 4) rfl rfl Tryd.func27 (by kernel_rfl) rfl #[.slice A0 l0.length c0] rfl (by (try simp only [List.map_toArray, List.map_cons, List.map_nil]); first | done | rfl | (simp only [List.length_drop, List.length_take]; rfl)) ?_; (with_reducible refine (dbus_formatMatchOptions.calls _ _ l0 t135 _ ?side1 ?side2 A2.out).mono ?_); (case side1 => repeat (first | exact HR0.out | (with_reducible refine Kd.C_alloc ?_ _) | (with_reducible refine Kd.C_drewN ?_ _) | (with_reducible refine Kd.C_drew ?_))); (case side2 => exact HC0.out); rintro e w3 ⟨rfl, hb⟩; refine ⟨_, rfl, ?_⟩; have n0_ := Aside0.mk (below_step (by repeat (first | (with_reducible first | exact HB.out | apply below_alloc | apply pw_below_drewN | apply below_drew1) | exact HB.out)) hb); clear HB; have HB := n0_; clear n0_; (try clear hb); (try clear hb2); (try clear hk); (try clear hi)))
 go_ret
 exact ⟨by first | rfl | (simp [errW_none, errW_some] <;> rfl) | (simp [*, errW_none, errW_some] <;> rfl), by repeat (first | (with_reducible first | exact HB.out | apply below_alloc | apply pw_below_drewN | apply below_drew1) | exact HB.out)⟩

/-! ### impl_MtRule: function 10 -/
def impl_MtRule.l0 : Nat → List (S50) → List (S32) → Int → Int → Option (ByteArray)
 | 0, _, _, _, _ => none
 | k + 1, x3, x6, x7, x8 => if x8 < x7 then (if 0 ≤ x8 then (if x8 < (x6.length : Int) then ((dbus_WithMatchOption.f ((rd_T32 x6 x8).f0) ((rd_T32 x6 x8).f1)).bind fun bt138 => (if x3.length < 4398046511104 then (impl_MtRule.l0 k (x3 ++ [(⟨bt138.1, bt138.2⟩ : S50)]) x6 x7 (wrap64 (x8 + 1))) else (none))) else (none)) else (none)) else ((dbus_DoorRule.f x3).bind fun t143 => (some t143))
def impl_MtRule.f (k : Nat) (l0 : List (S32)) : Option (ByteArray) := impl_MtRule.l0 k ([] : List (S50)) l0 (l0.length : Int) 0
theorem impl_MtRule.mono_l : ∀ k, (∀ y0 y1 y2 y3, LeO (impl_MtRule.l0 k y0 y1 y2 y3) (impl_MtRule.l0 (k + 1) y0 y1 y2 y3))
 | 0 => fun _ _ _ _ r h => by simp [impl_MtRule.l0] at h
 | k + 1 => by
  have ih0 := impl_MtRule.mono_l k
  ·intro y0 y1 y2 y3
   unfold impl_MtRule.l0
   repeat' first
   | (with_reducible exact ih0 _ _ _ _)
   | (with_reducible exact LeO.refl _)
   | (with_reducible exact LeO.none _)
   | (with_reducible refine LeO.ite ?_ ?_)
   | (with_reducible refine LeO.bind ?_ (fun _ => ?_))
   | exact ih0 _ _ _ _
   | exact LeO.none _
   | refine LeO.ite ?_ ?_
   | refine LeO.bind ?_ (fun _ => ?_)
theorem impl_MtRule.mono : ∀ a0 k, LeO (impl_MtRule.f k a0) (impl_MtRule.f (k + 1) a0) := by
 intro a0 k
 have ih0 := impl_MtRule.mono_l k
 unfold impl_MtRule.f
 repeat' first
   | (with_reducible exact ih0 _ _ _ _)
   | (with_reducible exact LeO.refl _)
   | (with_reducible exact LeO.none _)
   | (with_reducible refine LeO.ite ?_ ?_)
   | (with_reducible refine LeO.bind ?_ (fun _ => ?_))
   | exact ih0 _ _ _ _
   | exact LeO.none _
   | refine LeO.ite ?_ ?_
   | refine LeO.bind ?_ (fun _ => ?_)
set_option maxHeartbeats 8000000 in
set_option maxRecDepth 100000 in
theorem impl_MtRule.calls (k : Nat) (A0 : Option Addr) (c0 : Nat) (l0 : List (S32)) (r : ByteArray) (w : World) (hr0 : Kd.C k32 w A0 l0.length l0) (hc0 : l0.length ≤ c0) (h : impl_MtRule.f k l0 = some r) :
  Calls Tryd.prog 10 #[.slice A0 l0.length c0] w fun e w' => e = .returned (.string r) ∧ Below w.heap.size w w' := by
 have hu32 := Tryd.underlying32
 have HR0 := Aside0.mk hr0
 have HC0 := Aside0.mk hc0
 clear hr0 hc0
 have HB := Aside0.mk (Below.refl w.heap.size w)
 have H : (impl_MtRule.l0 k ([] : List (S50)) l0 (l0.length : Int) 0) = some r := h
 clear h
 have H' := Aside0.mk H
 clear H
 go_enter Tryd.func10, Tryd.ntmps10
 go_wp2
 go_loopg [3, 8] k (fun kq v3 v8 w' => ∃ (x3_1 : List (S50)) (x8_1 : Int), v8 = .int .i64 x8_1 ∧ Aside0 (impl_MtRule.l0 kq x3_1 l0 (l0.length : Int) x8_1 = some r) ∧ Aside0 (kq ≤ k) ∧ Aside0 (Kd.R k50 50 w' w.heap.size (fun _ => True) v3 x3_1) ∧ Aside0 (Below w.heap.size w w'))
 case atStart => exact ⟨(([] : List (S50))), (0), (by first | rfl | (simp; done) | (simp [*]; done)), H', ⟨Nat.le_refl _⟩, ⟨by first | exact Kd.R_nil _ _ _ _ _ | exact Kd.N_nil _ _ _ _ _ | exact Kd.V_nil _ _ _ _ _ | exact Kd.Q_nil _ _ _ _ _ | exact Kd.S_nil _ _ _ _ _⟩, ⟨by repeat (first | (with_reducible first | exact HB.out | apply below_alloc | apply pw_below_drewN | apply below_drew1) | exact HB.out)⟩⟩
 case round =>
  clear H'
  try clear c1
  obtain ⟨x3_1, x8_1, rfl, HA, HK1, HO_3, HB⟩ := hrel
  cases gk with
  | zero => exact absurd HA.out (by simp [impl_MtRule.l0])
  | succ k1 =>
   have H := HA.out
   clear HA
   simp only [impl_MtRule.l0] at H
   by_cases c2 : x8_1 < (l0.length : Int)
   ·rw [if_pos c2] at H
    have c2b0 : decide (x8_1 < (l0.length : Int)) = true := decide_eq_true c2
    clear c2
    by_cases c3 : 0 ≤ x8_1
    ·rw [if_pos c3] at H
     have c3b0 : decide (0 ≤ x8_1) = true := decide_eq_true c3
     clear c3
     by_cases c4 : x8_1 < (l0.length : Int)
     ·rw [if_pos c4] at H
      have c4b0 : decide (x8_1 < (l0.length : Int)) = true := decide_eq_true c4
      clear c4
      replace H := Option.bind_eq_some_iff.mp H
      obtain ⟨⟨t138, t139⟩, A50, H⟩ := H
      replace H : (if x3_1.length < 4398046511104 then (impl_MtRule.l0 k1 (x3_1 ++ [(⟨t138, t139⟩ : S50)]) l0 (l0.length : Int) (wrap64 (x8_1 + 1))) else (none)) = some r := H
      have A5 := Aside0.mk A50
      clear A50
      by_cases c6 : x3_1.length < 4398046511104
      ·rw [if_pos c6] at H
       have LMc6 := Aside0.mk c6
       clear c6
       obtain ⟨y140, hy140⟩ : ∃ y_ : List (S50), y_ = (x3_1 ++ [(⟨t138, t139⟩ : S50)]) := ⟨_, rfl⟩
       replace H : (impl_MtRule.l0 k1 y140 l0 (l0.length : Int) (wrap64 (x8_1 + 1))) = some r := by first | (rw [hy140]; with_reducible exact H) | (have H2_ := (Option.bind_some _ _).symm.trans H; rw [hy140]; with_reducible exact H2_) | (have H2_ := (Option.bind_some _ _).symm.trans H; with_reducible exact H2_) | with_reducible exact H | (rw [hy140]; exact H) | exact H
       have Ny140 := Aside0.mk hy140
       clear hy140
       have H' := Aside0.mk H
       clear H
       have p136 : 0 ≤ (x8_1 : Int) := of_decide_eq_true (by first | (with_reducible assumption) | assumption)
       have q136 : x8_1 < (l0.length : Int) := of_decide_eq_true (by first | (with_reducible assumption) | assumption)
       obtain ⟨ad136, e136, hx136_0, hx136_1⟩ := at_T32 HR0.out x8_1 p136 q136
       cases e136
       replace hx136_0 := (HB.out.cell (World.block_lt_of_cell? w _ hx136_0)).trans hx136_0
       replace hx136_1 := (HB.out.cell (World.block_lt_of_cell? w _ hx136_1)).trans hx136_1
       replace p136 := eq_true p136
       replace q136 := eq_true q136
       go_wp2_with (first | ((with_reducible refine gate_dst (N := 5) rfl ?_); refine box_event ?hg (N := 5) ?hd (cs := #[.string (⟨#[]⟩ : ByteArray), .string (⟨#[]⟩ : ByteArray)]) (t := 32) ?hr ?_; (case hd => rfl); (case hg => rfl); (case hr => first | (go_simp; done) | (go_simp; rfl)); intro gb137 hg w7 hbox hb; have n0_ := Aside0.mk (Kd.R_below (by (with_reducible repeat (first | apply Kd.R_alloc | apply Kd.R_drewN | apply Kd.R_drew)); exact HO_3.out) hb); have n1_ := Aside0.mk (below_step (by repeat (first | (with_reducible first | exact HB.out | apply below_alloc | apply pw_below_drewN | apply below_drew1) | exact HB.out)) hb); have n2_ := Aside0.mk (hbox); have n3_ := Aside0.mk ((by rw [hg]; exact (below_size (by repeat (first | (with_reducible first | exact HB.out | apply below_alloc | apply pw_below_drewN | apply below_drew1) | exact HB.out))) : w.heap.size ≤ gb137)); have n4_ := Aside0.mk ((by rw [hg]; exact (below_size (by repeat (first | (with_reducible first | exact HB.out | apply below_alloc | apply pw_below_drewN | apply below_drew1) | exact HB.out))) : w.heap.size ≤ gb137)); clear HO_3; clear HB; have HO_3 := n0_; have HB := n1_; have BK137 := n2_; have GW137 := n3_; have GE137 := n4_; clear n0_ n1_ n2_ n3_ n4_; clear hb hbox hg; have hcz8_0 : w7.cell? ⟨gb137, 0, none⟩ = some (.string (⟨#[]⟩ : ByteArray)) := (blk_cell BK137.out 0).trans rfl; have hcz8_1 : w7.cell? ⟨gb137, 1, none⟩ = some (.string (⟨#[]⟩ : ByteArray)) := (blk_cell BK137.out 1).trans rfl; have hfz8_0 := blk_frozen BK137.out 0; have hfz8_1 := blk_frozen BK137.out 1) | ((with_reducible refine gate_callee (f := 15) rfl ?_); refine goesL_ (some 17) rfl rfl Tryd.func15 (by kernel_rfl) rfl #[.string ((rd_T32 l0 x8_1).f0), .string ((rd_T32 l0 x8_1).f1)] rfl (by (try simp only [List.map_toArray, List.map_cons, List.map_nil]); first | done | rfl | (simp only [List.length_drop, List.length_take]; rfl)) ?_; (with_reducible refine (dbus_WithMatchOption.calls ((rd_T32 l0 x8_1).f0) ((rd_T32 l0 x8_1).f1) t138 t139 _ A5.out).mono ?_); rintro e w9 ⟨rfl, hb⟩; refine ⟨_, rfl, ?_⟩; have n0_ := Aside0.mk (Kd.R_below (by (with_reducible repeat (first | apply Kd.R_alloc | apply Kd.R_drewN | apply Kd.R_drew)); exact (Kd.R_mono (Kd.R_far (p := ⟨gb137, 1, none⟩) (Kd.R_far (p := ⟨gb137, 0, none⟩) (Kd.R_types HO_3.out BK137.out (by decide)) (fun _ hk => hk.2) (.string ((rd_T32 l0 x8_1).f0))) (fun _ hk => hk.2) (.string ((rd_T32 l0 x8_1).f1))) (fun _ h_ => h_.1))) hb); have n1_ := Aside0.mk (blk_below (g := gb137) (o := .cells #[.string ((rd_T32 l0 x8_1).f0), .string ((rd_T32 l0 x8_1).f1)] 32 (0, 0)) (by (with_reducible repeat (first | refine blk_drewN ?_ _ | refine blk_drew ?_ | refine blk_alloc ?_ _)); refine blk_put (cs := #[.string ((rd_T32 l0 x8_1).f0), .string (⟨#[]⟩ : ByteArray)]) ?_ 1 _ rfl; (with_reducible repeat (first | refine blk_drewN ?_ _ | refine blk_drew ?_ | refine blk_alloc ?_ _)); refine blk_put (cs := #[.string (⟨#[]⟩ : ByteArray), .string (⟨#[]⟩ : ByteArray)]) ?_ 0 _ rfl; (with_reducible repeat (first | refine blk_drewN ?_ _ | refine blk_drew ?_ | refine blk_alloc ?_ _)); exact BK137.out) hb); have n2_ := Aside0.mk (below_step (by repeat (first | (with_reducible first | exact HB.out | apply below_alloc | apply pw_below_drewN | apply below_drew1 | refine below_set ?_ GE137.out) | exact HB.out)) hb); clear HO_3; clear BK137; clear HB; have HO_3 := n0_; have BK137 := n1_; have HB := n2_; clear n0_ n1_ n2_; (try clear hb); (try clear hb2); (try clear hk); (try clear hi)) | ((with_reducible refine gate_builtin (b := .append) (xs := #[.tmp 12, .tmp 18]) rfl ?_); at_builtin; refine Kd.R_append k50 (w0 := w) w.heap.size rfl (.tmp 12) (.tmp 18) 48 50 (.agg #[(.string ⟨#[]⟩), (.string ⟨#[]⟩)]) 32 rfl Tryd.underlying48 info50 rfl (by decide) (by omega) u3 x3_1 (⟨t138, t139⟩ : S50) [.string t138, .string t139] (fun _ => True) (fun _ => False) rfl rfl ?aP (fun _ hk => hk.elim) ?aF ?aO ?aB ?aS ?aL ?_; (case aP => exact k50_mkM _ _ _ (⟨t138, t139⟩ : S50)); (case aB => exact (by repeat (first | (with_reducible first | exact HB.out | apply below_alloc | apply pw_below_drewN | apply below_drew1 | refine below_set ?_ GE137.out) | exact HB.out))); (case aF => exact (fun _ _ => trivial)); (case aO => exact (by (with_reducible repeat (first | apply Kd.R_alloc | apply Kd.R_drewN | apply Kd.R_drew)); exact HO_3.out)); (case aS => exact (below_size (by repeat (first | (with_reducible first | exact HB.out | apply below_alloc | apply pw_below_drewN | apply below_drew1 | refine below_set ?_ GE137.out) | exact HB.out)))); (case aL => have := LMc6.out; omega); intro v141 w10 ho hb hg hat; rw [← Ny140.out] at ho; have n0_ := Aside0.mk (blk_grown (g := gb137) (o := .cells #[.string ((rd_T32 l0 x8_1).f0), .string ((rd_T32 l0 x8_1).f1)] 32 (0, 0)) (by (with_reducible repeat (first | refine blk_drewN ?_ _ | refine blk_drew ?_ | refine blk_alloc ?_ _)); exact BK137.out) hg (Kd.R_ne HO_3.out BK137.out (by decide))); have n1_ := Aside0.mk (hb); have n2_ := Aside0.mk (ho); clear BK137; clear HB; clear HO_3; have BK137 := n0_; have HB := n1_; have HO142 := n2_; clear n0_ n1_ n2_; clear ho hb hg hat))
       go_roundg k1
       case measure => have := HK1.out; omega
       case rel => exact ⟨(y140), (wrap64 (x8_1 + 1)), (by first | rfl | (simp; done) | (simp [*]; done)), H', ⟨by have := HK1.out; omega⟩, ⟨by (with_reducible repeat (first | apply Kd.R_alloc | apply Kd.R_drewN | apply Kd.R_drew)); exact HO142.out⟩, ⟨by repeat (first | (with_reducible first | exact HB.out | apply below_alloc | apply pw_below_drewN | apply below_drew1 | refine below_set ?_ GE137.out) | exact HB.out)⟩⟩
      ·rw [if_neg c6] at H
       exact absurd H (by simp)
     ·rw [if_neg c4] at H
      exact absurd H (by simp)
    ·rw [if_neg c3] at H
     exact absurd H (by simp)
   ·rw [if_neg c2] at H
    have c2b0 : decide (x8_1 < (l0.length : Int)) = false := decide_eq_false c2
    clear c2
    replace H := Option.bind_eq_some_iff.mp H
    obtain ⟨t143, A110, H⟩ := H
    replace H : (some t143) = some r := H
    have A11 := Aside0.mk A110
    clear A110
    obtain rfl := Option.some.inj H
    obtain ⟨Ao12, co12, eo12⟩ := Kd.R_slice HO_3.out
    subst eo12
    go_wp2_with (first | ((with_reducible refine gate_callee (f := 16) rfl ?_); refine goesL_ (some 22) rfl rfl Tryd.func16 (by kernel_rfl) rfl #[.slice Ao12 x3_1.length co12] rfl (by (try simp only [List.map_toArray, List.map_cons, List.map_nil]); first | done | rfl | (simp only [List.length_drop, List.length_take]; rfl)) ?_; (with_reducible refine (dbus_DoorRule.calls _ _ x3_1 t143 _ ?side1 ?side2 A11.out).mono ?_); (case side1 => repeat (first | exact (Kd.R_reads' HO_3.out).2.2 | (with_reducible refine Kd.C_alloc ?_ _) | (with_reducible refine Kd.C_drewN ?_ _) | (with_reducible refine Kd.C_drew ?_))); (case side2 => exact (Kd.R_reads' HO_3.out).2.1); rintro e w13 ⟨rfl, hb⟩; refine ⟨_, rfl, ?_⟩; have n0_ := Aside0.mk (Kd.R_below (by (with_reducible repeat (first | apply Kd.R_alloc | apply Kd.R_drewN | apply Kd.R_drew)); exact HO_3.out) hb); have n1_ := Aside0.mk (below_step (by repeat (first | (with_reducible first | exact HB.out | apply below_alloc | apply pw_below_drewN | apply below_drew1) | exact HB.out)) hb); clear HO_3; clear HB; have HO_3 := n0_; have HB := n1_; clear n0_ n1_; (try clear hb); (try clear hb2); (try clear hk); (try clear hi)))
    go_ret
    exact ⟨by first | rfl | (simp [errW_none, errW_some] <;> rfl) | (simp [*, errW_none, errW_some] <;> rfl), by repeat (first | (with_reducible first | exact HB.out | apply below_alloc | apply pw_below_drewN | apply below_drew1) | exact HB.out)⟩

-- BY HAND: function 12 (spec_Fits), in Derived.Test.YtoldgnmgjpjapaaDoorMt

/-! ### spec_FitsAll: function 11 -/
def spec_FitsAll.l0 : Nat → Bool → List (S41) → Int → Int → Int → Int → Int → List (S69) → List (S63) → Option (Bool × Bool)
 | 0, _, _, _, _, _, _, _, _, _ => none
 | k + 1, x6, x11, x12, x13, x145000, x145001, x145002, x145003, x145004 => if x13 < x12 then (if 0 ≤ x13 then (if x13 < (x11.length : Int) then ((spec_Fits.f k x145000 x145001 x145002 x145003 x145004 ((rd_T41 x11 x13).f0) ((rd_T41 x11 x13).f1)).bind fun bt147 => (if bt147.2 = true then (if x6 = true then (spec_FitsAll.l0 k bt147.1 x11 x12 (wrap64 (x13 + 1)) x145000 x145001 x145002 x145003 x145004) else (spec_FitsAll.l0 k false x11 x12 (wrap64 (x13 + 1)) x145000 x145001 x145002 x145003 x145004)) else (some (false, false)))) else (none)) else (none)) else (some (x6, true))
def spec_FitsAll.f (k : Nat) (a0_0 : Int) (a0_1 : Int) (a0_2 : Int) (l0_3 : List (S69)) (l0_4 : List (S63)) (l1 : List (S41)) : Option (Bool × Bool) := spec_FitsAll.l0 k true l1 (l1.length : Int) 0 a0_0 a0_1 a0_2 l0_3 l0_4
theorem spec_FitsAll.mono_l : ∀ k, (∀ y0 y1 y2 y3 y4 y5 y6 y7 y8, LeO (spec_FitsAll.l0 k y0 y1 y2 y3 y4 y5 y6 y7 y8) (spec_FitsAll.l0 (k + 1) y0 y1 y2 y3 y4 y5 y6 y7 y8))
 | 0 => fun _ _ _ _ _ _ _ _ _ r h => by simp [spec_FitsAll.l0] at h
 | k + 1 => by
  have ih0 := spec_FitsAll.mono_l k
  ·intro y0 y1 y2 y3 y4 y5 y6 y7 y8
   unfold spec_FitsAll.l0
   repeat' first
   | (with_reducible exact ih0 _ _ _ _ _ _ _ _ _)
   | (with_reducible exact spec_Fits.mono _ _ _ _ _ _ _ _)
   | (with_reducible exact LeO.refl _)
   | (with_reducible exact LeO.none _)
   | (with_reducible refine LeO.ite ?_ ?_)
   | (with_reducible refine LeO.bind ?_ (fun _ => ?_))
   | exact ih0 _ _ _ _ _ _ _ _ _
   | exact spec_Fits.mono _ _ _ _ _ _ _ _
   | exact LeO.none _
   | refine LeO.ite ?_ ?_
   | refine LeO.bind ?_ (fun _ => ?_)
theorem spec_FitsAll.mono : ∀ a0 a1 a2 a3 a4 a5 k, LeO (spec_FitsAll.f k a0 a1 a2 a3 a4 a5) (spec_FitsAll.f (k + 1) a0 a1 a2 a3 a4 a5) := by
 intro a0 a1 a2 a3 a4 a5 k
 have ih0 := spec_FitsAll.mono_l k
 unfold spec_FitsAll.f
 repeat' first
   | (with_reducible exact ih0 _ _ _ _ _ _ _ _ _)
   | (with_reducible exact spec_Fits.mono _ _ _ _ _ _ _ _)
   | (with_reducible exact LeO.refl _)
   | (with_reducible exact LeO.none _)
   | (with_reducible refine LeO.ite ?_ ?_)
   | (with_reducible refine LeO.bind ?_ (fun _ => ?_))
   | exact ih0 _ _ _ _ _ _ _ _ _
   | exact spec_Fits.mono _ _ _ _ _ _ _ _
   | exact LeO.none _
   | refine LeO.ite ?_ ?_
   | refine LeO.bind ?_ (fun _ => ?_)
set_option maxHeartbeats 8000000 in
set_option maxRecDepth 100000 in
theorem spec_FitsAll.calls (k : Nat) (a0_0 : Int) (a0_1 : Int) (a0_2 : Int) (A0_3 : Option Addr) (c0_3 : Nat) (l0_3 : List (S69)) (A0_4 : Option Addr) (c0_4 : Nat) (l0_4 : List (S63)) (A1 : Option Addr) (c1 : Nat) (l1 : List (S41)) (r1 : Bool) (r2 : Bool) (w : World) (hr0_3 : Kd.C k69 w A0_3 l0_3.length l0_3) (hc0_3 : l0_3.length ≤ c0_3) (hr0_4 : Kd.C k63 w A0_4 l0_4.length l0_4) (hc0_4 : l0_4.length ≤ c0_4) (hr1 : Kd.C k41 w A1 l1.length l1) (hc1 : l1.length ≤ c1) (h : spec_FitsAll.f k a0_0 a0_1 a0_2 l0_3 l0_4 l1 = some (r1, r2)) :
  Calls Tryd.prog 11 #[.agg #[.int .u8 a0_0, .int .u8 a0_1, .int .u32 a0_2, .slice A0_3 l0_3.length c0_3, .slice A0_4 l0_4.length c0_4], .slice A1 l1.length c1] w fun e w' => e = .returned (.tuple #[.bool r1, .bool r2]) ∧ Below w.heap.size w w' := by
 have hu28 := Tryd.underlying28
 have hu41 := Tryd.underlying41
 have HR0_3 := Aside0.mk hr0_3
 have HC0_3 := Aside0.mk hc0_3
 clear hr0_3 hc0_3
 have HR0_4 := Aside0.mk hr0_4
 have HC0_4 := Aside0.mk hc0_4
 clear hr0_4 hc0_4
 have HR1 := Aside0.mk hr1
 have HC1 := Aside0.mk hc1
 clear hr1 hc1
 have HB := Aside0.mk (Below.refl w.heap.size w)
 have H : (spec_FitsAll.l0 k true l1 (l1.length : Int) 0 a0_0 a0_1 a0_2 l0_3 l0_4) = some (r1, r2) := h
 clear h
 have H' := Aside0.mk H
 clear H
 go_enter Tryd.func11, Tryd.ntmps11
 go_wp2_with (first | ((with_reducible refine gate_dst (N := 2) rfl ?_); refine box_event ?hg (N := 2) ?hd (cs := #[.int .u8 a0_0, .int .u8 a0_1, .int .u32 a0_2, .slice A0_3 l0_3.length c0_3, .slice A0_4 l0_4.length c0_4]) (t := 28) ?hr ?_; (case hd => rfl); (case hg => rfl); (case hr => first | (go_simp; done) | (go_simp; rfl)); intro gb144 hg w3 hbox hb; have n0_ := Aside0.mk (below_step (by repeat (first | (with_reducible first | exact HB.out | apply below_alloc | apply pw_below_drewN | apply below_drew1) | exact HB.out)) hb); have n1_ := Aside0.mk (hbox); have n2_ := Aside0.mk ((by rw [hg]; exact (below_size (by repeat (first | (with_reducible first | exact HB.out | apply below_alloc | apply pw_below_drewN | apply below_drew1) | exact HB.out))) : w.heap.size ≤ gb144)); have n3_ := Aside0.mk ((by rw [hg]; exact (below_size (by repeat (first | (with_reducible first | exact HB.out | apply below_alloc | apply pw_below_drewN | apply below_drew1) | exact HB.out))) : w.heap.size ≤ gb144)); clear HB; have HB := n0_; have BK144 := n1_; have GW144 := n2_; have GE144 := n3_; clear n0_ n1_ n2_ n3_; clear hb hbox hg))
 go_loopg [6, 13] k (fun kq v6 v13 w' => ∃ (x6_1 : Bool) (x13_1 : Int), v6 = .bool x6_1 ∧ v13 = .int .i64 x13_1 ∧ Aside0 (spec_FitsAll.l0 kq x6_1 l1 (l1.length : Int) x13_1 a0_0 a0_1 a0_2 l0_3 l0_4 = some (r1, r2)) ∧ Aside0 (kq ≤ k) ∧ Aside0 (w'.heap[gb144]? = some (.cells #[.int .u8 a0_0, .int .u8 a0_1, .int .u32 a0_2, (.slice A0_3 l0_3.length c0_3), (.slice A0_4 l0_4.length c0_4)] 28 (0, 0))) ∧ Aside0 (Below w.heap.size w w'))
 case atStart => exact ⟨(true), (0), (by first | rfl | (simp; done) | (simp [*]; done)), (by first | rfl | (simp; done) | (simp [*]; done)), H', ⟨Nat.le_refl _⟩, ⟨by (with_reducible repeat (first | refine blk_drewN ?_ _ | refine blk_drew ?_ | refine blk_alloc ?_ _)); exact BK144.out⟩, ⟨by repeat (first | (with_reducible first | exact HB.out | apply below_alloc | apply pw_below_drewN | apply below_drew1 | refine below_set ?_ GE144.out) | exact HB.out)⟩⟩
 case round =>
  clear H'
  try clear c1
  try clear p2
  obtain ⟨x6_1, x13_1, rfl, rfl, HA, HK1, BK144, HB⟩ := hrel
  cases gk with
  | zero => exact absurd HA.out (by simp [spec_FitsAll.l0])
  | succ k1 =>
   have H := HA.out
   clear HA
   simp only [spec_FitsAll.l0] at H
   by_cases c4 : x13_1 < (l1.length : Int)
   ·rw [if_pos c4] at H
    have c4b0 : decide (x13_1 < (l1.length : Int)) = true := decide_eq_true c4
    clear c4
    by_cases c5 : 0 ≤ x13_1
    ·rw [if_pos c5] at H
     have c5b0 : decide (0 ≤ x13_1) = true := decide_eq_true c5
     clear c5
     by_cases c6 : x13_1 < (l1.length : Int)
     ·rw [if_pos c6] at H
      have c6b0 : decide (x13_1 < (l1.length : Int)) = true := decide_eq_true c6
      clear c6
      replace H := Option.bind_eq_some_iff.mp H
      obtain ⟨⟨t147, t148⟩, A70, H⟩ := H
      replace H : (if t148 = true then (if x6_1 = true then (spec_FitsAll.l0 k1 t147 l1 (l1.length : Int) (wrap64 (x13_1 + 1)) a0_0 a0_1 a0_2 l0_3 l0_4) else (spec_FitsAll.l0 k1 false l1 (l1.length : Int) (wrap64 (x13_1 + 1)) a0_0 a0_1 a0_2 l0_3 l0_4)) else (some (false, false))) = some (r1, r2) := H
      have A7 := Aside0.mk A70
      clear A70
      by_cases c8 : t148 = true
      ·subst c8
       have H1 : (if x6_1 = true then (spec_FitsAll.l0 k1 t147 l1 (l1.length : Int) (wrap64 (x13_1 + 1)) a0_0 a0_1 a0_2 l0_3 l0_4) else (spec_FitsAll.l0 k1 false l1 (l1.length : Int) (wrap64 (x13_1 + 1)) a0_0 a0_1 a0_2 l0_3 l0_4)) = some (r1, r2) := by rw [if_pos rfl] at H; exact H
       clear H
       have H := H1
       clear H1
       by_cases c9 : x6_1 = true
       ·subst c9
        have H1 : (spec_FitsAll.l0 k1 t147 l1 (l1.length : Int) (wrap64 (x13_1 + 1)) a0_0 a0_1 a0_2 l0_3 l0_4) = some (r1, r2) := by rw [if_pos rfl] at H; exact H
        clear H
        have H := H1
        clear H1
        have H' := Aside0.mk H
        clear H
        have p145 : 0 ≤ (x13_1 : Int) := of_decide_eq_true (by first | (with_reducible assumption) | assumption)
        have q145 : x13_1 < (l1.length : Int) := of_decide_eq_true (by first | (with_reducible assumption) | assumption)
        obtain ⟨ad145, e145, hx145_0, hx145_1⟩ := at_T41 HR1.out x13_1 p145 q145
        cases e145
        replace hx145_0 := (HB.out.cell (World.block_lt_of_cell? w _ hx145_0)).trans hx145_0
        replace hx145_1 := (HB.out.cell (World.block_lt_of_cell? w _ hx145_1)).trans hx145_1
        replace p145 := eq_true p145
        replace q145 := eq_true q145
        go_wp2_with (first | ((with_reducible refine gate_dst (N := 8) rfl ?_); refine box_event ?hg (N := 8) ?hd (cs := #[.string (⟨#[]⟩ : ByteArray), .string (⟨#[]⟩ : ByteArray)]) (t := 41) ?hr ?_; (case hd => rfl); (case hg => rfl); (case hr => first | (go_simp; done) | (go_simp; rfl)); intro gb146 hg w10 hbox hb; have n0_ := Aside0.mk (blk_below (g := gb144) (o := .cells #[.int .u8 a0_0, .int .u8 a0_1, .int .u32 a0_2, .slice A0_3 l0_3.length c0_3, .slice A0_4 l0_4.length c0_4] 28 (0, 0)) (by (with_reducible repeat (first | refine blk_drewN ?_ _ | refine blk_drew ?_ | refine blk_alloc ?_ _)); exact BK144.out) hb); have n1_ := Aside0.mk (below_step (by repeat (first | (with_reducible first | exact HB.out | apply below_alloc | apply pw_below_drewN | apply below_drew1 | refine below_set ?_ GE144.out) | exact HB.out)) hb); have n2_ := Aside0.mk (hbox); have n3_ := Aside0.mk ((by rw [hg]; exact (below_size (by repeat (first | (with_reducible first | exact HB.out | apply below_alloc | apply pw_below_drewN | apply below_drew1 | refine below_set ?_ GE144.out) | exact HB.out))) : w.heap.size ≤ gb146)); have n4_ := Aside0.mk ((by rw [hg]; exact (below_size (by repeat (first | (with_reducible first | exact HB.out | apply below_alloc | apply pw_below_drewN | apply below_drew1 | refine below_set ?_ GE144.out) | exact HB.out))) : w.heap.size ≤ gb146)); have n5_ := Aside0.mk ((by rw [hg]; exact Nat.ne_of_lt (blk_lt (g := gb144) (o := .cells #[.int .u8 a0_0, .int .u8 a0_1, .int .u32 a0_2, .slice A0_3 l0_3.length c0_3, .slice A0_4 l0_4.length c0_4] 28 (0, 0)) (by (with_reducible repeat (first | refine blk_drewN ?_ _ | refine blk_drew ?_ | refine blk_alloc ?_ _)); exact BK144.out)) : gb144 ≠ gb146)); have n6_ := Aside0.mk ((by rw [hg]; exact Nat.ne_of_gt (blk_lt (g := gb144) (o := .cells #[.int .u8 a0_0, .int .u8 a0_1, .int .u32 a0_2, .slice A0_3 l0_3.length c0_3, .slice A0_4 l0_4.length c0_4] 28 (0, 0)) (by (with_reducible repeat (first | refine blk_drewN ?_ _ | refine blk_drew ?_ | refine blk_alloc ?_ _)); exact BK144.out)) : gb146 ≠ gb144)); clear BK144; clear HB; have BK144 := n0_; have HB := n1_; have BK146 := n2_; have GW146 := n3_; have GE146 := n4_; have NB144_146 := n5_; have NB146_144 := n6_; clear n0_ n1_ n2_ n3_ n4_ n5_ n6_; clear hb hbox hg; have hnb11 := NB146_144.out; have hnc11 := NB144_146.out; have hcz12_0 : w10.cell? ⟨gb146, 0, none⟩ = some (.string (⟨#[]⟩ : ByteArray)) := (blk_cell BK146.out 0).trans rfl; have hcz12_1 : w10.cell? ⟨gb146, 1, none⟩ = some (.string (⟨#[]⟩ : ByteArray)) := (blk_cell BK146.out 1).trans rfl; have hfz12_0 := blk_frozen BK146.out 0; have hfz12_1 := blk_frozen BK146.out 1; have hcz13_0 : w10.cell? ⟨gb144, 0, none⟩ = some (.int .u8 a0_0) := (blk_cell BK144.out 0).trans rfl; have hcz13_1 : w10.cell? ⟨gb144, 1, none⟩ = some (.int .u8 a0_1) := (blk_cell BK144.out 1).trans rfl; have hcz13_2 : w10.cell? ⟨gb144, 2, none⟩ = some (.int .u32 a0_2) := (blk_cell BK144.out 2).trans rfl; have hcz13_3 : w10.cell? ⟨gb144, 3, none⟩ = some (.slice A0_3 l0_3.length c0_3) := (blk_cell BK144.out 3).trans rfl; have hcz13_4 : w10.cell? ⟨gb144, 4, none⟩ = some (.slice A0_4 l0_4.length c0_4) := (blk_cell BK144.out 4).trans rfl; have hfz13_0 := blk_frozen BK144.out 0; have hfz13_1 := blk_frozen BK144.out 1; have hfz13_2 := blk_frozen BK144.out 2; have hfz13_3 := blk_frozen BK144.out 3; have hfz13_4 := blk_frozen BK144.out 4) | ((with_reducible refine gate_callee (f := 12) rfl ?_); refine goesL_ (some 20) rfl rfl Tryd.func12 (by kernel_rfl) rfl #[.agg #[.int .u8 a0_0, .int .u8 a0_1, .int .u32 a0_2, .slice A0_3 l0_3.length c0_3, .slice A0_4 l0_4.length c0_4], .agg #[.string ((rd_T41 l1 x13_1).f0), .string ((rd_T41 l1 x13_1).f1)]] rfl (by (try simp only [List.map_toArray, List.map_cons, List.map_nil]); first | done | rfl | (simp only [List.length_drop, List.length_take]; rfl)) ?_; (with_reducible refine (spec_Fits.calls k1 a0_0 a0_1 a0_2 _ _ l0_3 _ _ l0_4 ((rd_T41 l1 x13_1).f0) ((rd_T41 l1 x13_1).f1) t147 true _ ?side1 ?side2 ?side3 ?side4 A7.out).mono ?_); (case side1 => exact Kd.C_below HR0_3.out (by repeat (first | (with_reducible first | exact HB.out | apply below_alloc | apply pw_below_drewN | apply below_drew1 | refine below_set ?_ GE144.out | refine below_set ?_ GE146.out) | exact HB.out))); (case side2 => exact HC0_3.out); (case side3 => exact Kd.C_below HR0_4.out (by repeat (first | (with_reducible first | exact HB.out | apply below_alloc | apply pw_below_drewN | apply below_drew1 | refine below_set ?_ GE144.out | refine below_set ?_ GE146.out) | exact HB.out))); (case side4 => exact HC0_4.out); rintro e w14 ⟨rfl, hb⟩; refine ⟨_, rfl, ?_⟩; have n0_ := Aside0.mk (blk_below (g := gb144) (o := .cells #[.int .u8 a0_0, .int .u8 a0_1, .int .u32 a0_2, .slice A0_3 l0_3.length c0_3, .slice A0_4 l0_4.length c0_4] 28 (0, 0)) (by (with_reducible repeat (first | refine blk_drewN ?_ _ | refine blk_drew ?_ | refine blk_alloc ?_ _)); refine blk_far ?_ NB144_146.out _; (with_reducible repeat (first | refine blk_drewN ?_ _ | refine blk_drew ?_ | refine blk_alloc ?_ _)); refine blk_far ?_ NB144_146.out _; (with_reducible repeat (first | refine blk_drewN ?_ _ | refine blk_drew ?_ | refine blk_alloc ?_ _)); exact BK144.out) hb); have n1_ := Aside0.mk (blk_below (g := gb146) (o := .cells #[.string ((rd_T41 l1 x13_1).f0), .string ((rd_T41 l1 x13_1).f1)] 41 (0, 0)) (by (with_reducible repeat (first | refine blk_drewN ?_ _ | refine blk_drew ?_ | refine blk_alloc ?_ _)); refine blk_put (cs := #[.string ((rd_T41 l1 x13_1).f0), .string (⟨#[]⟩ : ByteArray)]) ?_ 1 _ rfl; (with_reducible repeat (first | refine blk_drewN ?_ _ | refine blk_drew ?_ | refine blk_alloc ?_ _)); refine blk_put (cs := #[.string (⟨#[]⟩ : ByteArray), .string (⟨#[]⟩ : ByteArray)]) ?_ 0 _ rfl; (with_reducible repeat (first | refine blk_drewN ?_ _ | refine blk_drew ?_ | refine blk_alloc ?_ _)); exact BK146.out) hb); have n2_ := Aside0.mk (below_step (by repeat (first | (with_reducible first | exact HB.out | apply below_alloc | apply pw_below_drewN | apply below_drew1 | refine below_set ?_ GE144.out | refine below_set ?_ GE146.out) | exact HB.out)) hb); clear BK144; clear BK146; clear HB; have BK144 := n0_; have BK146 := n1_; have HB := n2_; clear n0_ n1_ n2_; (try clear hb); (try clear hb2); (try clear hk); (try clear hi)))
        go_roundg k1
        case measure => have := HK1.out; omega
        case rel => exact ⟨(t147), (wrap64 (x13_1 + 1)), (by first | rfl | (simp; done) | (simp [*]; done)), (by first | rfl | (simp; done) | (simp [*]; done)), H', ⟨by have := HK1.out; omega⟩, ⟨by (with_reducible repeat (first | refine blk_drewN ?_ _ | refine blk_drew ?_ | refine blk_alloc ?_ _)); exact BK144.out⟩, ⟨by repeat (first | (with_reducible first | exact HB.out | apply below_alloc | apply pw_below_drewN | apply below_drew1 | refine below_set ?_ GE144.out | refine below_set ?_ GE146.out) | exact HB.out)⟩⟩
       ·replace c9 := Bool.eq_false_iff.mpr c9
        subst c9
        have H1 : (spec_FitsAll.l0 k1 false l1 (l1.length : Int) (wrap64 (x13_1 + 1)) a0_0 a0_1 a0_2 l0_3 l0_4) = some (r1, r2) := by rw [if_neg (show ¬ (false = true) by decide)] at H; exact H
        clear H
        have H := H1
        clear H1
        have H' := Aside0.mk H
        clear H
        have p145 : 0 ≤ (x13_1 : Int) := of_decide_eq_true (by first | (with_reducible assumption) | assumption)
        have q145 : x13_1 < (l1.length : Int) := of_decide_eq_true (by first | (with_reducible assumption) | assumption)
        obtain ⟨ad145, e145, hx145_0, hx145_1⟩ := at_T41 HR1.out x13_1 p145 q145
        cases e145
        replace hx145_0 := (HB.out.cell (World.block_lt_of_cell? w _ hx145_0)).trans hx145_0
        replace hx145_1 := (HB.out.cell (World.block_lt_of_cell? w _ hx145_1)).trans hx145_1
        replace p145 := eq_true p145
        replace q145 := eq_true q145
        go_wp2_with (first | ((with_reducible refine gate_dst (N := 8) rfl ?_); refine box_event ?hg (N := 8) ?hd (cs := #[.string (⟨#[]⟩ : ByteArray), .string (⟨#[]⟩ : ByteArray)]) (t := 41) ?hr ?_; (case hd => rfl); (case hg => rfl); (case hr => first | (go_simp; done) | (go_simp; rfl)); intro gb146 hg w15 hbox hb; have n0_ := Aside0.mk (blk_below (g := gb144) (o := .cells #[.int .u8 a0_0, .int .u8 a0_1, .int .u32 a0_2, .slice A0_3 l0_3.length c0_3, .slice A0_4 l0_4.length c0_4] 28 (0, 0)) (by (with_reducible repeat (first | refine blk_drewN ?_ _ | refine blk_drew ?_ | refine blk_alloc ?_ _)); exact BK144.out) hb); have n1_ := Aside0.mk (below_step (by repeat (first | (with_reducible first | exact HB.out | apply below_alloc | apply pw_below_drewN | apply below_drew1 | refine below_set ?_ GE144.out) | exact HB.out)) hb); have n2_ := Aside0.mk (hbox); have n3_ := Aside0.mk ((by rw [hg]; exact (below_size (by repeat (first | (with_reducible first | exact HB.out | apply below_alloc | apply pw_below_drewN | apply below_drew1 | refine below_set ?_ GE144.out) | exact HB.out))) : w.heap.size ≤ gb146)); have n4_ := Aside0.mk ((by rw [hg]; exact (below_size (by repeat (first | (with_reducible first | exact HB.out | apply below_alloc | apply pw_below_drewN | apply below_drew1 | refine below_set ?_ GE144.out) | exact HB.out))) : w.heap.size ≤ gb146)); have n5_ := Aside0.mk ((by rw [hg]; exact Nat.ne_of_lt (blk_lt (g := gb144) (o := .cells #[.int .u8 a0_0, .int .u8 a0_1, .int .u32 a0_2, .slice A0_3 l0_3.length c0_3, .slice A0_4 l0_4.length c0_4] 28 (0, 0)) (by (with_reducible repeat (first | refine blk_drewN ?_ _ | refine blk_drew ?_ | refine blk_alloc ?_ _)); exact BK144.out)) : gb144 ≠ gb146)); have n6_ := Aside0.mk ((by rw [hg]; exact Nat.ne_of_gt (blk_lt (g := gb144) (o := .cells #[.int .u8 a0_0, .int .u8 a0_1, .int .u32 a0_2, .slice A0_3 l0_3.length c0_3, .slice A0_4 l0_4.length c0_4] 28 (0, 0)) (by (with_reducible repeat (first | refine blk_drewN ?_ _ | refine blk_drew ?_ | refine blk_alloc ?_ _)); exact BK144.out)) : gb146 ≠ gb144)); clear BK144; clear HB; have BK144 := n0_; have HB := n1_; have BK146 := n2_; have GW146 := n3_; have GE146 := n4_; have NB144_146 := n5_; have NB146_144 := n6_; clear n0_ n1_ n2_ n3_ n4_ n5_ n6_; clear hb hbox hg; have hnb16 := NB146_144.out; have hnc16 := NB144_146.out; have hcz17_0 : w15.cell? ⟨gb146, 0, none⟩ = some (.string (⟨#[]⟩ : ByteArray)) := (blk_cell BK146.out 0).trans rfl; have hcz17_1 : w15.cell? ⟨gb146, 1, none⟩ = some (.string (⟨#[]⟩ : ByteArray)) := (blk_cell BK146.out 1).trans rfl; have hfz17_0 := blk_frozen BK146.out 0; have hfz17_1 := blk_frozen BK146.out 1; have hcz18_0 : w15.cell? ⟨gb144, 0, none⟩ = some (.int .u8 a0_0) := (blk_cell BK144.out 0).trans rfl; have hcz18_1 : w15.cell? ⟨gb144, 1, none⟩ = some (.int .u8 a0_1) := (blk_cell BK144.out 1).trans rfl; have hcz18_2 : w15.cell? ⟨gb144, 2, none⟩ = some (.int .u32 a0_2) := (blk_cell BK144.out 2).trans rfl; have hcz18_3 : w15.cell? ⟨gb144, 3, none⟩ = some (.slice A0_3 l0_3.length c0_3) := (blk_cell BK144.out 3).trans rfl; have hcz18_4 : w15.cell? ⟨gb144, 4, none⟩ = some (.slice A0_4 l0_4.length c0_4) := (blk_cell BK144.out 4).trans rfl; have hfz18_0 := blk_frozen BK144.out 0; have hfz18_1 := blk_frozen BK144.out 1; have hfz18_2 := blk_frozen BK144.out 2; have hfz18_3 := blk_frozen BK144.out 3; have hfz18_4 := blk_frozen BK144.out 4) | ((with_reducible refine gate_callee (f := 12) rfl ?_); refine goesL_ (some 20) rfl rfl Tryd.func12 (by kernel_rfl) rfl #[.agg #[.int .u8 a0_0, .int .u8 a0_1, .int .u32 a0_2, .slice A0_3 l0_3.length c0_3, .slice A0_4 l0_4.length c0_4], .agg #[.string ((rd_T41 l1 x13_1).f0), .string ((rd_T41 l1 x13_1).f1)]] rfl (by (try simp only [List.map_toArray, List.map_cons, List.map_nil]); first | done | rfl | (simp only [List.length_drop, List.length_take]; rfl)) ?_; (with_reducible refine (spec_Fits.calls k1 a0_0 a0_1 a0_2 _ _ l0_3 _ _ l0_4 ((rd_T41 l1 x13_1).f0) ((rd_T41 l1 x13_1).f1) t147 true _ ?side1 ?side2 ?side3 ?side4 A7.out).mono ?_); (case side1 => exact Kd.C_below HR0_3.out (by repeat (first | (with_reducible first | exact HB.out | apply below_alloc | apply pw_below_drewN | apply below_drew1 | refine below_set ?_ GE144.out | refine below_set ?_ GE146.out) | exact HB.out))); (case side2 => exact HC0_3.out); (case side3 => exact Kd.C_below HR0_4.out (by repeat (first | (with_reducible first | exact HB.out | apply below_alloc | apply pw_below_drewN | apply below_drew1 | refine below_set ?_ GE144.out | refine below_set ?_ GE146.out) | exact HB.out))); (case side4 => exact HC0_4.out); rintro e w19 ⟨rfl, hb⟩; refine ⟨_, rfl, ?_⟩; have n0_ := Aside0.mk (blk_below (g := gb144) (o := .cells #[.int .u8 a0_0, .int .u8 a0_1, .int .u32 a0_2, .slice A0_3 l0_3.length c0_3, .slice A0_4 l0_4.length c0_4] 28 (0, 0)) (by (with_reducible repeat (first | refine blk_drewN ?_ _ | refine blk_drew ?_ | refine blk_alloc ?_ _)); refine blk_far ?_ NB144_146.out _; (with_reducible repeat (first | refine blk_drewN ?_ _ | refine blk_drew ?_ | refine blk_alloc ?_ _)); refine blk_far ?_ NB144_146.out _; (with_reducible repeat (first | refine blk_drewN ?_ _ | refine blk_drew ?_ | refine blk_alloc ?_ _)); exact BK144.out) hb); have n1_ := Aside0.mk (blk_below (g := gb146) (o := .cells #[.string ((rd_T41 l1 x13_1).f0), .string ((rd_T41 l1 x13_1).f1)] 41 (0, 0)) (by (with_reducible repeat (first | refine blk_drewN ?_ _ | refine blk_drew ?_ | refine blk_alloc ?_ _)); refine blk_put (cs := #[.string ((rd_T41 l1 x13_1).f0), .string (⟨#[]⟩ : ByteArray)]) ?_ 1 _ rfl; (with_reducible repeat (first | refine blk_drewN ?_ _ | refine blk_drew ?_ | refine blk_alloc ?_ _)); refine blk_put (cs := #[.string (⟨#[]⟩ : ByteArray), .string (⟨#[]⟩ : ByteArray)]) ?_ 0 _ rfl; (with_reducible repeat (first | refine blk_drewN ?_ _ | refine blk_drew ?_ | refine blk_alloc ?_ _)); exact BK146.out) hb); have n2_ := Aside0.mk (below_step (by repeat (first | (with_reducible first | exact HB.out | apply below_alloc | apply pw_below_drewN | apply below_drew1 | refine below_set ?_ GE144.out | refine below_set ?_ GE146.out) | exact HB.out)) hb); clear BK144; clear BK146; clear HB; have BK144 := n0_; have BK146 := n1_; have HB := n2_; clear n0_ n1_ n2_; (try clear hb); (try clear hb2); (try clear hk); (try clear hi)))
        go_roundg k1
        case measure => have := HK1.out; omega
        case rel => exact ⟨(false), (wrap64 (x13_1 + 1)), (by first | rfl | (simp; done) | (simp [*]; done)), (by first | rfl | (simp; done) | (simp [*]; done)), H', ⟨by have := HK1.out; omega⟩, ⟨by (with_reducible repeat (first | refine blk_drewN ?_ _ | refine blk_drew ?_ | refine blk_alloc ?_ _)); exact BK144.out⟩, ⟨by repeat (first | (with_reducible first | exact HB.out | apply below_alloc | apply pw_below_drewN | apply below_drew1 | refine below_set ?_ GE144.out | refine below_set ?_ GE146.out) | exact HB.out)⟩⟩
      ·replace c8 := Bool.eq_false_iff.mpr c8
       subst c8
       have H1 : (some (false, false)) = some (r1, r2) := by rw [if_neg (show ¬ (false = true) by decide)] at H; exact H
       clear H
       have H := H1
       clear H1
       simp only [Option.some.injEq, Prod.mk.injEq] at H
       obtain ⟨rfl, rfl⟩ := H
       have p145 : 0 ≤ (x13_1 : Int) := of_decide_eq_true (by first | (with_reducible assumption) | assumption)
       have q145 : x13_1 < (l1.length : Int) := of_decide_eq_true (by first | (with_reducible assumption) | assumption)
       obtain ⟨ad145, e145, hx145_0, hx145_1⟩ := at_T41 HR1.out x13_1 p145 q145
       cases e145
       replace hx145_0 := (HB.out.cell (World.block_lt_of_cell? w _ hx145_0)).trans hx145_0
       replace hx145_1 := (HB.out.cell (World.block_lt_of_cell? w _ hx145_1)).trans hx145_1
       replace p145 := eq_true p145
       replace q145 := eq_true q145
       go_wp2_with (first | ((with_reducible refine gate_dst (N := 8) rfl ?_); refine box_event ?hg (N := 8) ?hd (cs := #[.string (⟨#[]⟩ : ByteArray), .string (⟨#[]⟩ : ByteArray)]) (t := 41) ?hr ?_; (case hd => rfl); (case hg => rfl); (case hr => first | (go_simp; done) | (go_simp; rfl)); intro gb146 hg w20 hbox hb; have n0_ := Aside0.mk (blk_below (g := gb144) (o := .cells #[.int .u8 a0_0, .int .u8 a0_1, .int .u32 a0_2, .slice A0_3 l0_3.length c0_3, .slice A0_4 l0_4.length c0_4] 28 (0, 0)) (by (with_reducible repeat (first | refine blk_drewN ?_ _ | refine blk_drew ?_ | refine blk_alloc ?_ _)); exact BK144.out) hb); have n1_ := Aside0.mk (below_step (by repeat (first | (with_reducible first | exact HB.out | apply below_alloc | apply pw_below_drewN | apply below_drew1 | refine below_set ?_ GE144.out) | exact HB.out)) hb); have n2_ := Aside0.mk (hbox); have n3_ := Aside0.mk ((by rw [hg]; exact (below_size (by repeat (first | (with_reducible first | exact HB.out | apply below_alloc | apply pw_below_drewN | apply below_drew1 | refine below_set ?_ GE144.out) | exact HB.out))) : w.heap.size ≤ gb146)); have n4_ := Aside0.mk ((by rw [hg]; exact (below_size (by repeat (first | (with_reducible first | exact HB.out | apply below_alloc | apply pw_below_drewN | apply below_drew1 | refine below_set ?_ GE144.out) | exact HB.out))) : w.heap.size ≤ gb146)); have n5_ := Aside0.mk ((by rw [hg]; exact Nat.ne_of_lt (blk_lt (g := gb144) (o := .cells #[.int .u8 a0_0, .int .u8 a0_1, .int .u32 a0_2, .slice A0_3 l0_3.length c0_3, .slice A0_4 l0_4.length c0_4] 28 (0, 0)) (by (with_reducible repeat (first | refine blk_drewN ?_ _ | refine blk_drew ?_ | refine blk_alloc ?_ _)); exact BK144.out)) : gb144 ≠ gb146)); have n6_ := Aside0.mk ((by rw [hg]; exact Nat.ne_of_gt (blk_lt (g := gb144) (o := .cells #[.int .u8 a0_0, .int .u8 a0_1, .int .u32 a0_2, .slice A0_3 l0_3.length c0_3, .slice A0_4 l0_4.length c0_4] 28 (0, 0)) (by (with_reducible repeat (first | refine blk_drewN ?_ _ | refine blk_drew ?_ | refine blk_alloc ?_ _)); exact BK144.out)) : gb146 ≠ gb144)); clear BK144; clear HB; have BK144 := n0_; have HB := n1_; have BK146 := n2_; have GW146 := n3_; have GE146 := n4_; have NB144_146 := n5_; have NB146_144 := n6_; clear n0_ n1_ n2_ n3_ n4_ n5_ n6_; clear hb hbox hg; have hnb21 := NB146_144.out; have hnc21 := NB144_146.out; have hcz22_0 : w20.cell? ⟨gb146, 0, none⟩ = some (.string (⟨#[]⟩ : ByteArray)) := (blk_cell BK146.out 0).trans rfl; have hcz22_1 : w20.cell? ⟨gb146, 1, none⟩ = some (.string (⟨#[]⟩ : ByteArray)) := (blk_cell BK146.out 1).trans rfl; have hfz22_0 := blk_frozen BK146.out 0; have hfz22_1 := blk_frozen BK146.out 1; have hcz23_0 : w20.cell? ⟨gb144, 0, none⟩ = some (.int .u8 a0_0) := (blk_cell BK144.out 0).trans rfl; have hcz23_1 : w20.cell? ⟨gb144, 1, none⟩ = some (.int .u8 a0_1) := (blk_cell BK144.out 1).trans rfl; have hcz23_2 : w20.cell? ⟨gb144, 2, none⟩ = some (.int .u32 a0_2) := (blk_cell BK144.out 2).trans rfl; have hcz23_3 : w20.cell? ⟨gb144, 3, none⟩ = some (.slice A0_3 l0_3.length c0_3) := (blk_cell BK144.out 3).trans rfl; have hcz23_4 : w20.cell? ⟨gb144, 4, none⟩ = some (.slice A0_4 l0_4.length c0_4) := (blk_cell BK144.out 4).trans rfl; have hfz23_0 := blk_frozen BK144.out 0; have hfz23_1 := blk_frozen BK144.out 1; have hfz23_2 := blk_frozen BK144.out 2; have hfz23_3 := blk_frozen BK144.out 3; have hfz23_4 := blk_frozen BK144.out 4) | ((with_reducible refine gate_callee (f := 12) rfl ?_); refine goesL_ (some 20) rfl rfl Tryd.func12 (by kernel_rfl) rfl #[.agg #[.int .u8 a0_0, .int .u8 a0_1, .int .u32 a0_2, .slice A0_3 l0_3.length c0_3, .slice A0_4 l0_4.length c0_4], .agg #[.string ((rd_T41 l1 x13_1).f0), .string ((rd_T41 l1 x13_1).f1)]] rfl (by (try simp only [List.map_toArray, List.map_cons, List.map_nil]); first | done | rfl | (simp only [List.length_drop, List.length_take]; rfl)) ?_; (with_reducible refine (spec_Fits.calls k1 a0_0 a0_1 a0_2 _ _ l0_3 _ _ l0_4 ((rd_T41 l1 x13_1).f0) ((rd_T41 l1 x13_1).f1) t147 false _ ?side1 ?side2 ?side3 ?side4 A7.out).mono ?_); (case side1 => exact Kd.C_below HR0_3.out (by repeat (first | (with_reducible first | exact HB.out | apply below_alloc | apply pw_below_drewN | apply below_drew1 | refine below_set ?_ GE144.out | refine below_set ?_ GE146.out) | exact HB.out))); (case side2 => exact HC0_3.out); (case side3 => exact Kd.C_below HR0_4.out (by repeat (first | (with_reducible first | exact HB.out | apply below_alloc | apply pw_below_drewN | apply below_drew1 | refine below_set ?_ GE144.out | refine below_set ?_ GE146.out) | exact HB.out))); (case side4 => exact HC0_4.out); rintro e w24 ⟨rfl, hb⟩; refine ⟨_, rfl, ?_⟩; have n0_ := Aside0.mk (blk_below (g := gb144) (o := .cells #[.int .u8 a0_0, .int .u8 a0_1, .int .u32 a0_2, .slice A0_3 l0_3.length c0_3, .slice A0_4 l0_4.length c0_4] 28 (0, 0)) (by (with_reducible repeat (first | refine blk_drewN ?_ _ | refine blk_drew ?_ | refine blk_alloc ?_ _)); refine blk_far ?_ NB144_146.out _; (with_reducible repeat (first | refine blk_drewN ?_ _ | refine blk_drew ?_ | refine blk_alloc ?_ _)); refine blk_far ?_ NB144_146.out _; (with_reducible repeat (first | refine blk_drewN ?_ _ | refine blk_drew ?_ | refine blk_alloc ?_ _)); exact BK144.out) hb); have n1_ := Aside0.mk (blk_below (g := gb146) (o := .cells #[.string ((rd_T41 l1 x13_1).f0), .string ((rd_T41 l1 x13_1).f1)] 41 (0, 0)) (by (with_reducible repeat (first | refine blk_drewN ?_ _ | refine blk_drew ?_ | refine blk_alloc ?_ _)); refine blk_put (cs := #[.string ((rd_T41 l1 x13_1).f0), .string (⟨#[]⟩ : ByteArray)]) ?_ 1 _ rfl; (with_reducible repeat (first | refine blk_drewN ?_ _ | refine blk_drew ?_ | refine blk_alloc ?_ _)); refine blk_put (cs := #[.string (⟨#[]⟩ : ByteArray), .string (⟨#[]⟩ : ByteArray)]) ?_ 0 _ rfl; (with_reducible repeat (first | refine blk_drewN ?_ _ | refine blk_drew ?_ | refine blk_alloc ?_ _)); exact BK146.out) hb); have n2_ := Aside0.mk (below_step (by repeat (first | (with_reducible first | exact HB.out | apply below_alloc | apply pw_below_drewN | apply below_drew1 | refine below_set ?_ GE144.out | refine below_set ?_ GE146.out) | exact HB.out)) hb); clear BK144; clear BK146; clear HB; have BK144 := n0_; have BK146 := n1_; have HB := n2_; clear n0_ n1_ n2_; (try clear hb); (try clear hb2); (try clear hk); (try clear hi)))
       go_ret2
       exact ⟨by first | rfl | (simp [errW_none, errW_some] <;> rfl) | (simp [*, errW_none, errW_some] <;> rfl), by repeat (first | (with_reducible first | exact HB.out | apply below_alloc | apply pw_below_drewN | apply below_drew1 | refine below_set ?_ GE144.out | refine below_set ?_ GE146.out) | exact HB.out)⟩
     ·rw [if_neg c6] at H
      exact absurd H (by simp)
    ·rw [if_neg c5] at H
     exact absurd H (by simp)
   ·rw [if_neg c4] at H
    have c4b0 : decide (x13_1 < (l1.length : Int)) = false := decide_eq_false c4
    clear c4
    simp only [Option.some.injEq, Prod.mk.injEq] at H
    obtain ⟨rfl, rfl⟩ := H
    go_wp2
    go_ret2
    exact ⟨by first | rfl | (simp [errW_none, errW_some] <;> rfl) | (simp [*, errW_none, errW_some] <;> rfl), by repeat (first | (with_reducible first | exact HB.out | apply below_alloc | apply pw_below_drewN | apply below_drew1 | refine below_set ?_ GE144.out) | exact HB.out)⟩

/-! ### spec_Decimal: function 23 -/
mutual
def spec_Decimal.l0 : Nat → Int → List Int → Bool → Option (ByteArray)
 | 0, _, _, _ => none
 | k + 1, x0, x3, x4 => if x4 = true then (if x3.length < 140737488355328 then (spec_Decimal.l0 k (IntKind.u64.wrap (Int.tdiv x0 10)) (x3 ++ [(IntKind.u64.wrap (48 + (Int.tmod x0 10))) % 256]) false) else (none)) else (if x0 > 0 then (if x3.length < 140737488355328 then (spec_Decimal.l0 k (IntKind.u64.wrap (Int.tdiv x0 10)) (x3 ++ [(IntKind.u64.wrap (48 + (Int.tmod x0 10))) % 256]) false) else (none)) else (spec_Decimal.l1 k x3 0 (wrap64 ((x3.length : Int) - 1))))
def spec_Decimal.l1 : Nat → List Int → Int → Int → Option (ByteArray)
 | 0, _, _, _ => none
 | k + 1, x3, x5, x6 => if x5 < x6 then (if 0 ≤ x6 then (if x6 < (x3.length : Int) then (if 0 ≤ x5 then (if x5 < (x3.length : Int) then (spec_Decimal.l1 k ((x3.set (x5 : Int).toNat (rd x3 x6)).set (x6 : Int).toNat (rd x3 x5)) (wrap64 (x5 + 1)) (wrap64 (x6 - 1))) else (none)) else (none)) else (none)) else (none)) else (some (strOfNums x3))
end
def spec_Decimal.f (k : Nat) (a0 : Int) : Option (ByteArray) := spec_Decimal.l0 k a0 (([] : List Int)) true
theorem spec_Decimal.mono_l : ∀ k, (∀ y0 y1 y2, LeO (spec_Decimal.l0 k y0 y1 y2) (spec_Decimal.l0 (k + 1) y0 y1 y2)) ∧ (∀ y0 y1 y2, LeO (spec_Decimal.l1 k y0 y1 y2) (spec_Decimal.l1 (k + 1) y0 y1 y2))
 | 0 => ⟨fun _ _ _ r h => by simp [spec_Decimal.l0] at h, fun _ _ _ r h => by simp [spec_Decimal.l1] at h⟩
 | k + 1 => by
  obtain ⟨ih0, ih1⟩ := spec_Decimal.mono_l k
  refine ⟨?_, ?_⟩
  ·intro y0 y1 y2
   unfold spec_Decimal.l0
   repeat' first
   | (with_reducible exact ih0 _ _ _)
   | (with_reducible exact ih1 _ _ _)
   | (with_reducible exact LeO.refl _)
   | (with_reducible exact LeO.none _)
   | (with_reducible refine LeO.ite ?_ ?_)
   | (with_reducible refine LeO.bind ?_ (fun _ => ?_))
   | exact ih0 _ _ _
   | exact ih1 _ _ _
   | exact LeO.none _
   | refine LeO.ite ?_ ?_
   | refine LeO.bind ?_ (fun _ => ?_)
  ·intro y0 y1 y2
   unfold spec_Decimal.l1
   repeat' first
   | (with_reducible exact ih0 _ _ _)
   | (with_reducible exact ih1 _ _ _)
   | (with_reducible exact LeO.refl _)
   | (with_reducible exact LeO.none _)
   | (with_reducible refine LeO.ite ?_ ?_)
   | (with_reducible refine LeO.bind ?_ (fun _ => ?_))
   | exact ih0 _ _ _
   | exact ih1 _ _ _
   | exact LeO.none _
   | refine LeO.ite ?_ ?_
   | refine LeO.bind ?_ (fun _ => ?_)
theorem spec_Decimal.mono : ∀ a0 k, LeO (spec_Decimal.f k a0) (spec_Decimal.f (k + 1) a0) := by
 intro a0 k
 obtain ⟨ih0, ih1⟩ := spec_Decimal.mono_l k
 unfold spec_Decimal.f
 repeat' first
   | (with_reducible exact ih0 _ _ _)
   | (with_reducible exact ih1 _ _ _)
   | (with_reducible exact LeO.refl _)
   | (with_reducible exact LeO.none _)
   | (with_reducible refine LeO.ite ?_ ?_)
   | (with_reducible refine LeO.bind ?_ (fun _ => ?_))
   | exact ih0 _ _ _
   | exact ih1 _ _ _
   | exact LeO.none _
   | refine LeO.ite ?_ ?_
   | refine LeO.bind ?_ (fun _ => ?_)
def spec_Decimal.T10 : Bool × List (List Nat × List Nat) := (true, [([], []), ([], []), ([], []), ([], []), ([], []), ([], []), ([4, 5], [4, 5]), ([6], [6]), ([], []), ([], []), ([8, 9], [8, 9]), ([10], [10]), ([0, 1, 0, 1, 4, 5, 6, 7, 11], [0, 1]), ([12, 7, 0, 1, 4, 5, 6, 7, 11], [7, 12]), ([2, 3, 0, 1, 2, 3, 4, 5, 6, 7, 8, 9, 10, 11, 12, 13], [2, 3]), ([14, 11, 13, 0, 1, 2, 3, 4, 5, 6, 7, 8, 9, 10, 11, 12, 13], [11, 14])])
def spec_Decimal.B10 : List Nat := [0, 0, 0, 0, 0, 0, 48, 112, 0, 0, 768, 1792, 4083, 8179, 16383, 32767]
theorem spec_Decimal.tab10 : rtab .any (opsOf Tryd.f23 10) = spec_Decimal.T10 := by kernel_rfl
theorem spec_Decimal.bits10 : waitsOk spec_Decimal.T10.2 spec_Decimal.B10 = true := by kernel_rfl
set_option maxHeartbeats 8000000 in
set_option maxRecDepth 100000 in
theorem spec_Decimal.calls (k : Nat) (a0 : Int) (r : ByteArray) (w : World) (h : spec_Decimal.f k a0 = some r) :
  Calls Tryd.prog 23 #[.int .u64 a0] w fun e w' => e = .returned (.string r) ∧ Below w.heap.size w w' := by
 have HB := Aside0.mk (Below.refl w.heap.size w)
 have H : (spec_Decimal.l0 k a0 (([] : List Int)) true) = some r := h
 clear h
 obtain ⟨y149, hy149⟩ : ∃ y_ : List Int, y_ = (([] : List Int)) := ⟨_, rfl⟩
 replace H : (spec_Decimal.l0 k a0 y149 true) = some r := by first | (rw [hy149]; with_reducible exact H) | (have H2_ := (Option.bind_some _ _).symm.trans H; rw [hy149]; with_reducible exact H2_) | (have H2_ := (Option.bind_some _ _).symm.trans H; with_reducible exact H2_) | with_reducible exact H | (rw [hy149]; exact H) | exact H
 have Ny149 := Aside0.mk hy149
 clear hy149
 have H' := Aside0.mk H
 clear H
 go_enter Tryd.func23, Tryd.ntmps23
 go_wp2_with (first | ((with_reducible refine gate_dst (N := 7) rfl ?_); refine Kd.R_lit (Kd.int .u8) _ 5 ?hg (N := 7) ?hd (xs := ([] : List Int)) (inner := []) (ok := fun _ => True) (okp := fun _ => True) ?hr ?hp (fun _ hk => hk) trivial (Below.refl _ _) (Nat.le_refl _) (by simp) ?_; (case hd => rfl); (case hg => rfl); (case hr => first | (go_simp; done) | (go_simp; rfl)); (case hp => exact (Reps.none _ _)); intro v150 w2 ho3 hb hg_ hnew_; clear hg_ hnew_; (first | rw [← Ny149.out] at ho3 | (simp only [Int.reduceToNat] at ho3; rw [← Ny149.out] at ho3)); have n0_ := Aside0.mk (Kd.R_lower ho3 (below_size (by repeat (first | (with_reducible first | exact HB.out | apply below_alloc | apply pw_below_drewN | apply below_drew1) | exact HB.out)))); have n1_ := Aside0.mk (below_step (by repeat (first | (with_reducible first | exact HB.out | apply below_alloc | apply pw_below_drewN | apply below_drew1) | exact HB.out)) hb); clear HB; have HO151 := n0_; have HB := n1_; clear n0_ n1_; clear hb ho3))
 go_loopg [0, 3, 4] k (fun kq v0 v3 v4 w' => ∃ (x0_1 : Int) (x3_1 : List Int) (x4_1 : Bool), v0 = .int .u64 x0_1 ∧ v4 = .bool x4_1 ∧ Aside0 (spec_Decimal.l0 kq x0_1 x3_1 x4_1 = some r) ∧ Aside0 (kq ≤ k) ∧ Aside0 (Kd.R (Kd.int .u8) 5 w' w.heap.size (fun _ => True) v3 x3_1) ∧ Aside0 (Below w.heap.size w w'))
 case atStart => exact ⟨(a0), (y149), (true), (by first | rfl | (simp; done) | (simp [*]; done)), (by first | rfl | (simp; done) | (simp [*]; done)), H', ⟨Nat.le_refl _⟩, ⟨by (with_reducible repeat (first | apply Kd.R_alloc | apply Kd.R_drewN | apply Kd.R_drew)); exact HO151.out⟩, ⟨by repeat (first | (with_reducible first | exact HB.out | apply below_alloc | apply pw_below_drewN | apply below_drew1) | exact HB.out)⟩⟩
 case round =>
  clear H'
  try clear c2
  try clear p2
  obtain ⟨x0_1, x3_1, x4_1, rfl, rfl, HA, HK1, HO_3, HB⟩ := hrel
  cases gk with
  | zero => exact absurd HA.out (by simp [spec_Decimal.l0])
  | succ k1 =>
   have H := HA.out
   clear HA
   simp only [spec_Decimal.l0] at H
   by_cases c4 : x4_1 = true
   ·subst c4
    have H1 : (if x3_1.length < 140737488355328 then (spec_Decimal.l0 k1 (IntKind.u64.wrap (Int.tdiv x0_1 10)) (x3_1 ++ [(IntKind.u64.wrap (48 + (Int.tmod x0_1 10))) % 256]) false) else (none)) = some r := by rw [if_pos rfl] at H; exact H
    clear H
    have H := H1
    clear H1
    by_cases c5 : x3_1.length < 140737488355328
    ·rw [if_pos c5] at H
     have LMc5 := Aside0.mk c5
     clear c5
     obtain ⟨y152, hy152⟩ : ∃ y_ : List Int, y_ = (x3_1 ++ [(IntKind.u64.wrap (48 + (Int.tmod x0_1 10))) % 256]) := ⟨_, rfl⟩
     replace H : (spec_Decimal.l0 k1 (IntKind.u64.wrap (Int.tdiv x0_1 10)) y152 false) = some r := by first | (rw [hy152]; with_reducible exact H) | (have H2_ := (Option.bind_some _ _).symm.trans H; rw [hy152]; with_reducible exact H2_) | (have H2_ := (Option.bind_some _ _).symm.trans H; with_reducible exact H2_) | with_reducible exact H | (rw [hy152]; exact H) | exact H
     have Ny152 := Aside0.mk hy152
     clear hy152
     have H' := Aside0.mk H
     clear H
     go_wp2_with (first | ((with_reducible refine gate_builtin (b := .append) (xs := #[.tmp 13, .tmp 18]) rfl ?_); at_builtin; refine Kd.R_append (Kd.int .u8) (w0 := w) w.heap.size rfl (.tmp 13) (.tmp 18) 22 5 (.int .u8 0) 1 rfl Tryd.underlying22 info5 rfl (by decide) (by omega) u3 x3_1 ((IntKind.u64.wrap (48 + (Int.tmod x0_1 10))) % 256) [.int .u8 ((IntKind.u64.wrap (48 + (Int.tmod x0_1 10))) % 256)] (fun _ => True) (fun _ => False) rfl rfl ?aP (fun _ hk => hk.elim) ?aF ?aO ?aB ?aS ?aL ?_; (case aP => exact rfl); (case aB => exact (by repeat (first | (with_reducible first | exact HB.out | apply below_alloc | apply pw_below_drewN | apply below_drew1) | exact HB.out))); (case aF => exact (fun _ _ => trivial)); (case aO => exact (by (with_reducible repeat (first | apply Kd.R_alloc | apply Kd.R_drewN | apply Kd.R_drew)); exact HO_3.out)); (case aS => exact (below_size (by repeat (first | (with_reducible first | exact HB.out | apply below_alloc | apply pw_below_drewN | apply below_drew1) | exact HB.out)))); (case aL => have := LMc5.out; omega); intro v153 w6 ho hb hg hat; rw [← Ny152.out] at ho; have n0_ := Aside0.mk (hb); have n1_ := Aside0.mk (ho); clear HB; clear HO_3; have HB := n0_; have HO154 := n1_; clear n0_ n1_; clear ho hb hg hat))
     go_roundg k1
     case measure => have := HK1.out; omega
     case rel => exact ⟨(IntKind.u64.wrap (Int.tdiv x0_1 10)), (y152), (false), (by first | rfl | (simp; done) | (simp [*]; done)), (by first | rfl | (simp; done) | (simp [*]; done)), H', ⟨by have := HK1.out; omega⟩, ⟨by (with_reducible repeat (first | apply Kd.R_alloc | apply Kd.R_drewN | apply Kd.R_drew)); exact HO154.out⟩, ⟨by repeat (first | (with_reducible first | exact HB.out | apply below_alloc | apply pw_below_drewN | apply below_drew1) | exact HB.out)⟩⟩
    ·rw [if_neg c5] at H
     exact absurd H (by simp)
   ·replace c4 := Bool.eq_false_iff.mpr c4
    subst c4
    have H1 : (if x0_1 > 0 then (if x3_1.length < 140737488355328 then (spec_Decimal.l0 k1 (IntKind.u64.wrap (Int.tdiv x0_1 10)) (x3_1 ++ [(IntKind.u64.wrap (48 + (Int.tmod x0_1 10))) % 256]) false) else (none)) else (spec_Decimal.l1 k1 x3_1 0 (wrap64 ((x3_1.length : Int) - 1)))) = some r := by rw [if_neg (show ¬ (false = true) by decide)] at H; exact H
    clear H
    have H := H1
    clear H1
    by_cases c7 : x0_1 > 0
    ·rw [if_pos c7] at H
     have c7b0 : decide (0 < x0_1) = true := decide_eq_true c7
     clear c7
     by_cases c8 : x3_1.length < 140737488355328
     ·rw [if_pos c8] at H
      have LMc8 := Aside0.mk c8
      clear c8
      obtain ⟨y155, hy155⟩ : ∃ y_ : List Int, y_ = (x3_1 ++ [(IntKind.u64.wrap (48 + (Int.tmod x0_1 10))) % 256]) := ⟨_, rfl⟩
      replace H : (spec_Decimal.l0 k1 (IntKind.u64.wrap (Int.tdiv x0_1 10)) y155 false) = some r := by first | (rw [hy155]; with_reducible exact H) | (have H2_ := (Option.bind_some _ _).symm.trans H; rw [hy155]; with_reducible exact H2_) | (have H2_ := (Option.bind_some _ _).symm.trans H; with_reducible exact H2_) | with_reducible exact H | (rw [hy155]; exact H) | exact H
      have Ny155 := Aside0.mk hy155
      clear hy155
      have H' := Aside0.mk H
      clear H
      go_wp2_with (first | ((with_reducible refine gate_builtin (b := .append) (xs := #[.tmp 13, .tmp 18]) rfl ?_); at_builtin; refine Kd.R_append (Kd.int .u8) (w0 := w) w.heap.size rfl (.tmp 13) (.tmp 18) 22 5 (.int .u8 0) 1 rfl Tryd.underlying22 info5 rfl (by decide) (by omega) u3 x3_1 ((IntKind.u64.wrap (48 + (Int.tmod x0_1 10))) % 256) [.int .u8 ((IntKind.u64.wrap (48 + (Int.tmod x0_1 10))) % 256)] (fun _ => True) (fun _ => False) rfl rfl ?aP (fun _ hk => hk.elim) ?aF ?aO ?aB ?aS ?aL ?_; (case aP => exact rfl); (case aB => exact (by repeat (first | (with_reducible first | exact HB.out | apply below_alloc | apply pw_below_drewN | apply below_drew1) | exact HB.out))); (case aF => exact (fun _ _ => trivial)); (case aO => exact (by (with_reducible repeat (first | apply Kd.R_alloc | apply Kd.R_drewN | apply Kd.R_drew)); exact HO_3.out)); (case aS => exact (below_size (by repeat (first | (with_reducible first | exact HB.out | apply below_alloc | apply pw_below_drewN | apply below_drew1) | exact HB.out)))); (case aL => have := LMc8.out; omega); intro v156 w9 ho hb hg hat; rw [← Ny155.out] at ho; have n0_ := Aside0.mk (hb); have n1_ := Aside0.mk (ho); clear HB; clear HO_3; have HB := n0_; have HO157 := n1_; clear n0_ n1_; clear ho hb hg hat))
      go_roundg k1
      case measure => have := HK1.out; omega
      case rel => exact ⟨(IntKind.u64.wrap (Int.tdiv x0_1 10)), (y155), (false), (by first | rfl | (simp; done) | (simp [*]; done)), (by first | rfl | (simp; done) | (simp [*]; done)), H', ⟨by have := HK1.out; omega⟩, ⟨by (with_reducible repeat (first | apply Kd.R_alloc | apply Kd.R_drewN | apply Kd.R_drew)); exact HO157.out⟩, ⟨by repeat (first | (with_reducible first | exact HB.out | apply below_alloc | apply pw_below_drewN | apply below_drew1) | exact HB.out)⟩⟩
     ·rw [if_neg c8] at H
      exact absurd H (by simp)
    ·rw [if_neg c7] at H
     have c7b0 : decide (0 < x0_1) = false := decide_eq_false c7
     clear c7
     have H' := Aside0.mk H
     clear H
     obtain ⟨Ao10, co10, eo10⟩ := Kd.R_slice HO_3.out
     subst eo10
     go_wp2
     go_loopg [5, 6] k1 (fun kq v5 v6 w' => ∃ (x3_2 : List Int) (x5_2 : Int) (x6_2 : Int), v5 = .int .i64 x5_2 ∧ v6 = .int .i64 x6_2 ∧ Aside0 (spec_Decimal.l1 kq x3_2 x5_2 x6_2 = some r) ∧ Aside0 (kq ≤ k1) ∧ Aside0 (Kd.R (Kd.int .u8) 5 w' w.heap.size (fun _ => True) (.slice Ao10 x3_1.length co10) x3_2) ∧ Aside0 (Below w.heap.size w w'))
     case atStart => exact ⟨(x3_1), (0), (wrap64 ((x3_1.length : Int) - 1)), (by first | rfl | (simp; done) | (simp [*]; done)), (by first | rfl | (simp; done) | (simp [*]; done)), H', ⟨Nat.le_refl _⟩, ⟨by (with_reducible repeat (first | apply Kd.R_alloc | apply Kd.R_drewN | apply Kd.R_drew)); exact HO_3.out⟩, ⟨by repeat (first | (with_reducible first | exact HB.out | apply below_alloc | apply pw_below_drewN | apply below_drew1) | exact HB.out)⟩⟩
     case round =>
      clear H'
      try clear c2
      try clear p2
      try clear c4
      try clear c5
      try clear p6
      try clear c7
      try clear c7b0
      try clear c8
      try clear p2
      obtain ⟨x3_2, x5_2, x6_2, rfl, rfl, HA, HK2, HO_3, HB⟩ := hrel
      have hl3_2 := (Kd.R_reads' HO_3.out).1
      rw [hl3_2] at HO_3
      (try simp only [hl3_2])
      cases gk with
      | zero => exact absurd HA.out (by simp [spec_Decimal.l1])
      | succ k2 =>
       have H := HA.out
       clear HA
       simp only [spec_Decimal.l1] at H
       by_cases c11 : x5_2 < x6_2
       ·rw [if_pos c11] at H
        have c11b0 : decide (x5_2 < x6_2) = true := decide_eq_true c11
        clear c11
        by_cases c12 : 0 ≤ x6_2
        ·rw [if_pos c12] at H
         have c12b0 : decide (0 ≤ x6_2) = true := decide_eq_true c12
         clear c12
         by_cases c13 : x6_2 < (x3_2.length : Int)
         ·rw [if_pos c13] at H
          have c13b0 : decide (x6_2 < (x3_2.length : Int)) = true := decide_eq_true c13
          clear c13
          by_cases c14 : 0 ≤ x5_2
          ·rw [if_pos c14] at H
           have c14b0 : decide (0 ≤ x5_2) = true := decide_eq_true c14
           clear c14
           by_cases c15 : x5_2 < (x3_2.length : Int)
           ·rw [if_pos c15] at H
            have c15b0 : decide (x5_2 < (x3_2.length : Int)) = true := decide_eq_true c15
            clear c15
            obtain ⟨y160, hy160⟩ : ∃ y_ : List Int, y_ = (x3_2.set (x5_2 : Int).toNat (rd x3_2 x6_2)) := ⟨_, rfl⟩
            replace H : (spec_Decimal.l1 k2 (y160.set (x6_2 : Int).toNat (rd x3_2 x5_2)) (wrap64 (x5_2 + 1)) (wrap64 (x6_2 - 1))) = some r := by first | (rw [hy160]; with_reducible exact H) | (have H2_ := (Option.bind_some _ _).symm.trans H; rw [hy160]; with_reducible exact H2_) | (have H2_ := (Option.bind_some _ _).symm.trans H; with_reducible exact H2_) | with_reducible exact H | (rw [hy160]; exact H) | exact H
            have Ny160 := Aside0.mk hy160
            clear hy160
            obtain ⟨y161, hy161⟩ : ∃ y_ : List Int, y_ = (y160.set (x6_2 : Int).toNat (rd x3_2 x5_2)) := ⟨_, rfl⟩
            replace H : (spec_Decimal.l1 k2 y161 (wrap64 (x5_2 + 1)) (wrap64 (x6_2 - 1))) = some r := by first | (rw [hy161]; with_reducible exact H) | (have H2_ := (Option.bind_some _ _).symm.trans H; rw [hy161]; with_reducible exact H2_) | (have H2_ := (Option.bind_some _ _).symm.trans H; with_reducible exact H2_) | with_reducible exact H | (rw [hy161]; exact H) | exact H
            have Ny161 := Aside0.mk hy161
            clear hy161
            have H' := Aside0.mk H
            clear H
            try go_wp2
            have n0_ := Aside0.mk (Kd.R_drew HO_3.out)
            have n1_ := Aside0.mk (below_drew1 HB.out)
            clear HO_3
            clear HB
            have HO_3 := n0_
            have HB := n1_
            clear n0_ n1_
            have p158 : 0 ≤ (x6_2 : Int) := of_decide_eq_true (by first | (with_reducible assumption) | assumption)
            have q158 : x6_2 < (x3_2.length : Int) := of_decide_eq_true (by first | (with_reducible assumption) | assumption)
            obtain ⟨ad158, e158, hx158_0⟩ := Kd.at_int (Kd.R_reads' HO_3.out).2.2 x6_2 p158 q158
            cases e158
            replace p158 := eq_true p158
            replace q158 := eq_true q158
            have p159 : 0 ≤ (x5_2 : Int) := of_decide_eq_true (by first | (with_reducible assumption) | assumption)
            have q159 : x5_2 < (x3_2.length : Int) := of_decide_eq_true (by first | (with_reducible assumption) | assumption)
            obtain ⟨ad159, e159, hx159_0⟩ := Kd.at_int (Kd.R_reads' HO_3.out).2.2 x5_2 p159 q159
            obtain rfl : ad158 = ad159 := (by injection e159)
            replace p159 := eq_true p159
            replace q159 := eq_true q159
            have p16 : 0 ≤ (x5_2 : Int) := of_decide_eq_true (by first | (with_reducible assumption) | assumption)
            have q16 : (x5_2 : Int) < ((x3_2.length : Int) : Int) := of_decide_eq_true (by first | (with_reducible assumption) | assumption)
            obtain ⟨go16, co16, eo16, gb16, gl16, cl16, HG16⟩ := Kd.R_form HO_3.out (by omega)
            (first | cases eo16 | (injection eo16 with ea_ en_ ec_; (first | subst ea_ | (injection ea_ with ea_; subst ea_)); subst ec_; clear en_))
            have GB16 := Aside0.mk gb16
            have GG16 := Aside0.mk HG16
            clear gb16 gl16 HG16
            (first | simp only [add_plain] at hx158_0 | skip)
            (first | simp only [add_plain] at hx159_0 | skip)
            obtain ⟨hx16_0, hf16_0⟩ := Kd.R_celln 0 HO_3.out (x5_2 : Int) p16 q16
            replace p16 := eq_true p16
            replace q16 := eq_true q16
            have HP19 := Kd.R_putn HO_3.out (x5_2 : Int) (rd x3_2 x6_2)
            rw [← Ny160.out] at HP19
            have HQ19 := Aside0.mk HP19
            clear HP19
            have p17 : 0 ≤ (x6_2 : Int) := of_decide_eq_true (by first | (with_reducible assumption) | assumption)
            have q17 : (x6_2 : Int) < ((x3_2.length : Int) : Int) := of_decide_eq_true (by first | (with_reducible assumption) | assumption)
            obtain ⟨hx17_0, hf17_0⟩ := Kd.R_celln 0 HQ19.out (x6_2 : Int) p17 q17
            replace p17 := eq_true p17
            replace q17 := eq_true q17
            have HP20 := Kd.R_putn HQ19.out (x6_2 : Int) (rd x3_2 x5_2)
            rw [← Ny161.out] at HP20
            have HQ20 := Aside0.mk HP20
            clear HP20
            refine start_ (n := 16) (S := fun w' => w'.cell? ⟨go16, (x6_2).toNat, none⟩ = some (.int .u8 (rd x3_2 x6_2)) ∧ w'.cell? ⟨go16, (x5_2).toNat, none⟩ = some (.int .u8 (rd x3_2 x5_2))) (ds := [13, 15]) #[false, false, false, false, false, false, false, false, false, false, false, false, false, false, false, false] (by kernel_rfl) rfl rfl ⟨hx158_0, hx159_0⟩ (fun hHeld => ?_); refine with_tabW spec_Decimal.tab10 spec_Decimal.bits10 (fun HT_ HW_ => ?_)
            generalize wr.drew = w18 at HO_3 HB GG16 HQ19 HQ20 hf16_0 hf17_0 hx158_0 hx159_0 hx16_0 hx17_0 hHeld ⊢
            refine pure_ (i := 0) (N := some 32) (v := ?_) (a' := ?_) #[true, false, false, false, false, false, false, false, false, false, false, false, false, false, false, false] rfl rfl (any_of HT_.out (by kernel_rfl)) (fun _ _ _ h => h) (Or.inl ⟨by rfl, ?_⟩) ?_ ?_
            rotate_left
            ·intro w'
             go_simp
             with_reducible rfl
            rotate_left
            ·simp only [Act.put, List.setIfInBounds_toArray, List.set_cons_zero, List.set_cons_succ, i64_w, i32_w]
             rfl
            refine pure_ (i := 1) (N := some 33) (v := ?_) (a' := ?_) #[true, true, false, false, false, false, false, false, false, false, false, false, false, false, false, false] rfl rfl (any_of HT_.out (by kernel_rfl)) (fun _ _ _ h => h) (Or.inl ⟨by rfl, ?_⟩) ?_ ?_
            rotate_left
            ·intro w'
             go_simp
             with_reducible rfl
            rotate_left
            ·simp only [Act.put, List.setIfInBounds_toArray, List.set_cons_zero, List.set_cons_succ, i64_w, i32_w]
             rfl
            refine pure_ (i := 2) (N := some 34) (v := ?_) (a' := ?_) #[true, true, true, false, false, false, false, false, false, false, false, false, false, false, false, false] rfl rfl (any_of HT_.out (by kernel_rfl)) (fun _ _ _ h => h) (Or.inl ⟨by rfl, ?_⟩) ?_ ?_
            rotate_left
            ·intro w'
             go_simp
             with_reducible rfl
            rotate_left
            ·simp only [Act.put, List.setIfInBounds_toArray, List.set_cons_zero, List.set_cons_succ, i64_w, i32_w]
             rfl
            refine pure_ (i := 3) (N := some 35) (v := ?_) (a' := ?_) #[true, true, true, true, false, false, false, false, false, false, false, false, false, false, false, false] rfl rfl (any_of HT_.out (by kernel_rfl)) (fun _ _ _ h => h) (Or.inl ⟨by rfl, ?_⟩) ?_ ?_
            rotate_left
            ·intro w'
             go_simp
             with_reducible rfl
            rotate_left
            ·simp only [Act.put, List.setIfInBounds_toArray, List.set_cons_zero, List.set_cons_succ, i64_w, i32_w]
             rfl
            refine pure_ (i := 4) (N := some 36) (v := ?_) (a' := ?_) #[true, true, true, true, true, false, false, false, false, false, false, false, false, false, false, false] rfl rfl (any_of HT_.out (by kernel_rfl)) (fun _ _ _ h => h) (Or.inl ⟨by rfl, ?_⟩) ?_ ?_
            rotate_left
            ·intro w'
             go_simp
             with_reducible rfl
            rotate_left
            ·simp only [Act.put, List.setIfInBounds_toArray, List.set_cons_zero, List.set_cons_succ, i64_w, i32_w]
             rfl
            refine pure_ (i := 5) (N := some 37) (v := ?_) (a' := ?_) #[true, true, true, true, true, true, false, false, false, false, false, false, false, false, false, false] rfl rfl (any_of HT_.out (by kernel_rfl)) (fun _ _ _ h => h) (Or.inl ⟨by rfl, ?_⟩) ?_ ?_
            rotate_left
            ·intro w'
             go_simp
             with_reducible rfl
            rotate_left
            ·simp only [Act.put, List.setIfInBounds_toArray, List.set_cons_zero, List.set_cons_succ, i64_w, i32_w]
             rfl
            refine pure_ (i := 6) (N := some 38) (v := ?_) (a' := ?_) #[true, true, true, true, true, true, true, false, false, false, false, false, false, false, false, false] rfl rfl (any_of HT_.out (by kernel_rfl)) (fun _ _ _ h => h) (Or.inl ⟨by rfl, ?_⟩) ?_ ?_
            rotate_left
            ·intro w'
             go_simp
             with_reducible rfl
            rotate_left
            ·simp only [Act.put, List.setIfInBounds_toArray, List.set_cons_zero, List.set_cons_succ, i64_w, i32_w]
             rfl
            refine pure_ (i := 8) (N := some 40) (v := ?_) (a' := ?_) #[true, true, true, true, true, true, true, false, true, false, false, false, false, false, false, false] rfl rfl (any_of HT_.out (by kernel_rfl)) (fun _ _ _ h => h) (Or.inl ⟨by rfl, ?_⟩) ?_ ?_
            rotate_left
            ·intro w'
             go_simp
             with_reducible rfl
            rotate_left
            ·simp only [Act.put, List.setIfInBounds_toArray, List.set_cons_zero, List.set_cons_succ, i64_w, i32_w]
             rfl
            refine pure_ (i := 9) (N := some 41) (v := ?_) (a' := ?_) #[true, true, true, true, true, true, true, false, true, true, false, false, false, false, false, false] rfl rfl (any_of HT_.out (by kernel_rfl)) (fun _ _ _ h => h) (Or.inl ⟨by rfl, ?_⟩) ?_ ?_
            rotate_left
            ·intro w'
             go_simp
             with_reducible rfl
            rotate_left
            ·simp only [Act.put, List.setIfInBounds_toArray, List.set_cons_zero, List.set_cons_succ, i64_w, i32_w]
             rfl
            refine pure_ (i := 10) (N := some 42) (v := ?_) (a' := ?_) #[true, true, true, true, true, true, true, false, true, true, true, false, false, false, false, false] rfl rfl (any_of HT_.out (by kernel_rfl)) (fun _ _ _ h => h) (Or.inl ⟨by rfl, ?_⟩) ?_ ?_
            rotate_left
            ·intro w'
             go_simp
             with_reducible rfl
            rotate_left
            ·simp only [Act.put, List.setIfInBounds_toArray, List.set_cons_zero, List.set_cons_succ, i64_w, i32_w]
             rfl
            refine take_ (i := 7) (N := some 39) (v := ?_) (a' := ?_) #[true, true, true, true, true, true, true, true, true, true, true, false, false, false, false, false] rfl rfl (take_ofW HT_.out HW_.out (by kernel_rfl)) (fun _ _ _ h => h) (Or.inl ⟨by rfl, ?_⟩) hHeld ?_ ?_
            rotate_left
            ·rintro w' ⟨s0, s1⟩
             go_simp
             with_reducible rfl
            rotate_left
            ·simp only [Act.put, List.setIfInBounds_toArray, List.set_cons_zero, List.set_cons_succ, i64_w, i32_w]
             rfl
            refine take_ (i := 11) (N := some 43) (v := ?_) (a' := ?_) #[true, true, true, true, true, true, true, true, true, true, true, true, false, false, false, false] rfl rfl (take_ofW HT_.out HW_.out (by kernel_rfl)) (fun _ _ _ h => h) (Or.inl ⟨by rfl, ?_⟩) hHeld ?_ ?_
            rotate_left
            ·rintro w' ⟨s0, s1⟩
             go_simp
             with_reducible rfl
            rotate_left
            ·simp only [Act.put, List.setIfInBounds_toArray, List.set_cons_zero, List.set_cons_succ, i64_w, i32_w]
             rfl
            refine pure_ (i := 12) (N := some 44) (v := ?_) (a' := ?_) #[true, true, true, true, true, true, true, true, true, true, true, true, true, false, false, false] rfl rfl (any_of HT_.out (by kernel_rfl)) (fun _ _ _ h => h) (Or.inl ⟨by rfl, ?_⟩) ?_ ?_
            rotate_left
            ·intro w'
             go_simp
             with_reducible rfl
            rotate_left
            ·simp only [Act.put, List.setIfInBounds_toArray, List.set_cons_zero, List.set_cons_succ, i64_w, i32_w]
             rfl
            refine last_ (i := 13) (N := none) #[true, true, true, true, true, true, true, true, true, true, true, true, true, true, false, false] rfl rfl (one_of HT_.out (by kernel_rfl)) (by decide) (fun K hK => ?_)
            refine skip_ (w1 := ?_) (by rfl) rfl ?_ ?_
            rotate_left
            ·go_simp
             rfl
            refine hK.out _ _ ?_
            clear hK K
            refine pure_ (i := 14) (N := some 45) (v := ?_) (a' := ?_) #[true, true, true, true, true, true, true, true, true, true, true, true, true, true, true, false] rfl rfl (any_of HT_.out (by kernel_rfl)) (fun _ _ _ h => h) (Or.inl ⟨by rfl, ?_⟩) ?_ ?_
            rotate_left
            ·intro w'
             go_simp
             with_reducible rfl
            rotate_left
            ·simp only [Act.put, List.setIfInBounds_toArray, List.set_cons_zero, List.set_cons_succ, i64_w, i32_w]
             rfl
            refine last_ (i := 15) (N := none) #[true, true, true, true, true, true, true, true, true, true, true, true, true, true, true, true] rfl rfl (one_of HT_.out (by kernel_rfl)) (by decide) (fun K hK => ?_)
            refine skip_ (w1 := ?_) (by rfl) rfl ?_ ?_
            rotate_left
            ·go_simp
             rfl
            refine hK.out _ _ ?_
            clear hK K
            refine done_ (done_of HT_.out (by kernel_rfl)) ?_
            try go_wp2
            (try simp only [← hl3_2])
            go_roundg k2
            case measure => have := HK1.out; have := HK2.out; omega
            case rel => exact ⟨(y161), (wrap64 (x5_2 + 1)), (wrap64 (x6_2 - 1)), (by first | rfl | (simp; done) | (simp [*]; done)), (by first | rfl | (simp; done) | (simp [*]; done)), H', ⟨by have := HK1.out; have := HK2.out; omega⟩, ⟨by (try simp only [hl3_2]); (with_reducible repeat (first | apply Kd.R_alloc | apply Kd.R_drewN | apply Kd.R_drew)); exact HQ20.out⟩, ⟨by repeat (first | (with_reducible first | exact HB.out | apply below_alloc | apply pw_below_drewN | apply below_drew1 | refine below_set ?_ GB16.out | refine below_set ?_ GB16.out) | exact HB.out)⟩⟩
           ·rw [if_neg c15] at H
            exact absurd H (by simp)
          ·rw [if_neg c14] at H
           exact absurd H (by simp)
         ·rw [if_neg c13] at H
          exact absurd H (by simp)
        ·rw [if_neg c12] at H
         exact absurd H (by simp)
       ·rw [if_neg c11] at H
        have c11b0 : decide (x5_2 < x6_2) = false := decide_eq_false c11
        clear c11
        obtain rfl := Option.some.inj H
        have hcv21 := own_string (P := Tryd.prog) Tryd.underlying22 Tryd.underlying5 Tryd.underlying9 (Kd.own_of_R HO_3.out)
        go_wp2
        go_ret
        exact ⟨by first | rfl | (simp [errW_none, errW_some] <;> rfl) | (simp [*, errW_none, errW_some] <;> rfl), by repeat (first | (with_reducible first | exact HB.out | apply below_alloc | apply pw_below_drewN | apply below_drew1) | exact HB.out)⟩

/-! ### laws_mtKeyOf: function 13 -/
def laws_mtKeyOf.f (k : Nat) (a0 : Int) (a1 : Int) : Option (ByteArray) := if a0 = 6 then ((spec_Decimal.f k (IntKind.u64.wrap (a1))).bind fun t162 => (if 3 + t162.size ≤ 9223372036854775807 then (some ((⟨#[97, 114, 103]⟩ : ByteArray) ++ t162)) else (none))) else (if a0 = 7 then ((spec_Decimal.f k (IntKind.u64.wrap (a1))).bind fun t163 => (if 3 + t163.size ≤ 9223372036854775807 then (if ((⟨#[97, 114, 103]⟩ : ByteArray) ++ t163).size + 4 ≤ 9223372036854775807 then (some (((⟨#[97, 114, 103]⟩ : ByteArray) ++ t163) ++ (⟨#[112, 97, 116, 104]⟩ : ByteArray))) else (none)) else (none))) else ((some (([(⟨#[115, 101, 110, 100, 101, 114]⟩ : ByteArray), (⟨#[105, 110, 116, 101, 114, 102, 97, 99, 101]⟩ : ByteArray), (⟨#[109, 101, 109, 98, 101, 114]⟩ : ByteArray), (⟨#[112, 97, 116, 104]⟩ : ByteArray), (⟨#[112, 97, 116, 104, 95, 110, 97, 109, 101, 115, 112, 97, 99, 101]⟩ : ByteArray), (⟨#[100, 101, 115, 116, 105, 110, 97, 116, 105, 111, 110]⟩ : ByteArray), (⟨#[]⟩ : ByteArray), (⟨#[]⟩ : ByteArray), (⟨#[97, 114, 103, 48, 110, 97, 109, 101, 115, 112, 97, 99, 101]⟩ : ByteArray), (⟨#[101, 97, 118, 101, 115, 100, 114, 111, 112]⟩ : ByteArray)] : List ByteArray) : List ByteArray)).bind fun y164 => (if 0 ≤ a0 then (if a0 < (y164.length : Int) then (some (rdOf ByteArray.empty y164 a0)) else (none)) else (none))))
theorem laws_mtKeyOf.mono : ∀ a0 a1 k, LeO (laws_mtKeyOf.f k a0 a1) (laws_mtKeyOf.f (k + 1) a0 a1) := by
 intro a0 a1 k
 unfold laws_mtKeyOf.f
 repeat' first
   | (with_reducible exact spec_Decimal.mono _ _)
   | (with_reducible exact LeO.refl _)
   | (with_reducible exact LeO.none _)
   | (with_reducible refine LeO.ite ?_ ?_)
   | (with_reducible refine LeO.bind ?_ (fun _ => ?_))
   | exact spec_Decimal.mono _ _
   | exact LeO.none _
   | refine LeO.ite ?_ ?_
   | refine LeO.bind ?_ (fun _ => ?_)
set_option maxHeartbeats 8000000 in
set_option maxRecDepth 100000 in
theorem laws_mtKeyOf.calls (k : Nat) (a0 : Int) (a1 : Int) (r : ByteArray) (w : World) (h : laws_mtKeyOf.f k a0 a1 = some r) :
  Calls Tryd.prog 13 #[.int .i64 a0, .int .i64 a1] w fun e w' => e = .returned (.string r) ∧ Below w.heap.size w w' := by
 have HB := Aside0.mk (Below.refl w.heap.size w)
 have H : (if a0 = 6 then ((spec_Decimal.f k (IntKind.u64.wrap (a1))).bind fun t162 => (if 3 + t162.size ≤ 9223372036854775807 then (some ((⟨#[97, 114, 103]⟩ : ByteArray) ++ t162)) else (none))) else (if a0 = 7 then ((spec_Decimal.f k (IntKind.u64.wrap (a1))).bind fun t163 => (if 3 + t163.size ≤ 9223372036854775807 then (if ((⟨#[97, 114, 103]⟩ : ByteArray) ++ t163).size + 4 ≤ 9223372036854775807 then (some (((⟨#[97, 114, 103]⟩ : ByteArray) ++ t163) ++ (⟨#[112, 97, 116, 104]⟩ : ByteArray))) else (none)) else (none))) else ((some (([(⟨#[115, 101, 110, 100, 101, 114]⟩ : ByteArray), (⟨#[105, 110, 116, 101, 114, 102, 97, 99, 101]⟩ : ByteArray), (⟨#[109, 101, 109, 98, 101, 114]⟩ : ByteArray), (⟨#[112, 97, 116, 104]⟩ : ByteArray), (⟨#[112, 97, 116, 104, 95, 110, 97, 109, 101, 115, 112, 97, 99, 101]⟩ : ByteArray), (⟨#[100, 101, 115, 116, 105, 110, 97, 116, 105, 111, 110]⟩ : ByteArray), (⟨#[]⟩ : ByteArray), (⟨#[]⟩ : ByteArray), (⟨#[97, 114, 103, 48, 110, 97, 109, 101, 115, 112, 97, 99, 101]⟩ : ByteArray), (⟨#[101, 97, 118, 101, 115, 100, 114, 111, 112]⟩ : ByteArray)] : List ByteArray) : List ByteArray)).bind fun y164 => (if 0 ≤ a0 then (if a0 < (y164.length : Int) then (some (rdOf ByteArray.empty y164 a0)) else (none)) else (none))))) = some r := h
 clear h
 by_cases c3 : a0 = 6
 ·rw [if_pos c3] at H
  have c3b0 : (a0 == 6) = true := beq_iff_eq.mpr c3
  have c3b1 : (a0 != 6) = false := bne_eq_false_iff_eq.mpr c3
  clear c3
  replace H := Option.bind_eq_some_iff.mp H
  obtain ⟨t162, A40, H⟩ := H
  replace H : (if 3 + t162.size ≤ 9223372036854775807 then (some ((⟨#[97, 114, 103]⟩ : ByteArray) ++ t162)) else (none)) = some r := H
  have A4 := Aside0.mk A40
  clear A40
  by_cases c5 : 3 + t162.size ≤ 9223372036854775807
  ·rw [if_pos c5] at H
   have c5b0 := eq_true c5
   have c5b1 : decide (3 + t162.size ≤ 9223372036854775807) = true := decide_eq_true c5
   try have c5b2 : (9223372036854775807 < 3 + t162.size) = False := eq_false (Nat.not_lt.2 c5)
   try (have c5b3 := c5b2; simp only [ByteArray.size_append] at c5b3)
   try (have c5b4 := c5b3; simp only [show ∀ c : UInt8, (ByteArray.mk #[c]).size = 1 from fun _ => rfl] at c5b4)
   obtain rfl := Option.some.inj H
   go_enter Tryd.func13, Tryd.ntmps13
   go_wp2_with (first | ((with_reducible refine gate_callee (f := 23) rfl ?_); refine goesL_ (some 10) rfl rfl Tryd.func23 (by kernel_rfl) rfl #[.int .u64 (IntKind.u64.wrap (a1))] rfl (by (try simp only [List.map_toArray, List.map_cons, List.map_nil]); first | done | rfl | (simp only [List.length_drop, List.length_take]; rfl)) ?_; (with_reducible refine (spec_Decimal.calls k (IntKind.u64.wrap (a1)) t162 _ A4.out).mono ?_); rintro e w6 ⟨rfl, hb⟩; refine ⟨_, rfl, ?_⟩; have n0_ := Aside0.mk (below_step (by repeat (first | (with_reducible first | exact HB.out | apply below_alloc | apply pw_below_drewN | apply below_drew1) | exact HB.out)) hb); clear HB; have HB := n0_; clear n0_; (try clear hb); (try clear hb2); (try clear hk); (try clear hi)))
   go_ret
   exact ⟨by first | rfl | (simp [errW_none, errW_some] <;> rfl) | (simp [*, errW_none, errW_some] <;> rfl), by repeat (first | (with_reducible first | exact HB.out | apply below_alloc | apply pw_below_drewN | apply below_drew1) | exact HB.out)⟩
  ·rw [if_neg c5] at H
   exact absurd H (by simp)
 ·rw [if_neg c3] at H
  have c3b0 : (a0 == 6) = false := beq_eq_false_iff_ne.mpr c3
  have c3b1 : (a0 != 6) = true := bne_iff_ne.mpr c3
  by_cases c7 : a0 = 7
  ·rw [if_pos c7] at H
   have c7b0 : (a0 == 7) = true := beq_iff_eq.mpr c7
   have c7b1 : (a0 != 7) = false := bne_eq_false_iff_eq.mpr c7
   clear c7
   replace H := Option.bind_eq_some_iff.mp H
   obtain ⟨t163, A80, H⟩ := H
   replace H : (if 3 + t163.size ≤ 9223372036854775807 then (if ((⟨#[97, 114, 103]⟩ : ByteArray) ++ t163).size + 4 ≤ 9223372036854775807 then (some (((⟨#[97, 114, 103]⟩ : ByteArray) ++ t163) ++ (⟨#[112, 97, 116, 104]⟩ : ByteArray))) else (none)) else (none)) = some r := H
   have A8 := Aside0.mk A80
   clear A80
   by_cases c9 : 3 + t163.size ≤ 9223372036854775807
   ·rw [if_pos c9] at H
    have c9b0 := eq_true c9
    have c9b1 : decide (3 + t163.size ≤ 9223372036854775807) = true := decide_eq_true c9
    try have c9b2 : (9223372036854775807 < 3 + t163.size) = False := eq_false (Nat.not_lt.2 c9)
    try (have c9b3 := c9b2; simp only [ByteArray.size_append] at c9b3)
    try (have c9b4 := c9b3; simp only [show ∀ c : UInt8, (ByteArray.mk #[c]).size = 1 from fun _ => rfl] at c9b4)
    by_cases c10 : ((⟨#[97, 114, 103]⟩ : ByteArray) ++ t163).size + 4 ≤ 9223372036854775807
    ·rw [if_pos c10] at H
     have c10b0 := eq_true c10
     have c10b1 : decide (((⟨#[97, 114, 103]⟩ : ByteArray) ++ t163).size + 4 ≤ 9223372036854775807) = true := decide_eq_true c10
     try have c10b2 : (9223372036854775807 < ((⟨#[97, 114, 103]⟩ : ByteArray) ++ t163).size + 4) = False := eq_false (Nat.not_lt.2 c10)
     try (have c10b3 := c10b2; simp only [ByteArray.size_append] at c10b3)
     try (have c10b5 := c10b3; simp only [show (⟨#[97, 114, 103]⟩ : ByteArray).size = 3 from rfl] at c10b5)
     try (have c10b4 := c10b3; simp only [show ∀ c : UInt8, (ByteArray.mk #[c]).size = 1 from fun _ => rfl] at c10b4)
     obtain rfl := Option.some.inj H
     go_enter Tryd.func13, Tryd.ntmps13
     go_wp2_with (first | ((with_reducible refine gate_callee (f := 23) rfl ?_); refine goesL_ (some 16) rfl rfl Tryd.func23 (by kernel_rfl) rfl #[.int .u64 (IntKind.u64.wrap (a1))] rfl (by (try simp only [List.map_toArray, List.map_cons, List.map_nil]); first | done | rfl | (simp only [List.length_drop, List.length_take]; rfl)) ?_; (with_reducible refine (spec_Decimal.calls k (IntKind.u64.wrap (a1)) t163 _ A8.out).mono ?_); rintro e w11 ⟨rfl, hb⟩; refine ⟨_, rfl, ?_⟩; have n0_ := Aside0.mk (below_step (by repeat (first | (with_reducible first | exact HB.out | apply below_alloc | apply pw_below_drewN | apply below_drew1) | exact HB.out)) hb); clear HB; have HB := n0_; clear n0_; (try clear hb); (try clear hb2); (try clear hk); (try clear hi)))
     go_ret
     exact ⟨by first | rfl | (simp [errW_none, errW_some] <;> rfl) | (simp [*, errW_none, errW_some] <;> rfl), by repeat (first | (with_reducible first | exact HB.out | apply below_alloc | apply pw_below_drewN | apply below_drew1) | exact HB.out)⟩
    ·rw [if_neg c10] at H
     exact absurd H (by simp)
   ·rw [if_neg c9] at H
    exact absurd H (by simp)
  ·rw [if_neg c7] at H
   have c7b0 : (a0 == 7) = false := beq_eq_false_iff_ne.mpr c7
   have c7b1 : (a0 != 7) = true := bne_iff_ne.mpr c7
   obtain ⟨y164, hy164⟩ : ∃ y_ : List ByteArray, y_ = (([(⟨#[115, 101, 110, 100, 101, 114]⟩ : ByteArray), (⟨#[105, 110, 116, 101, 114, 102, 97, 99, 101]⟩ : ByteArray), (⟨#[109, 101, 109, 98, 101, 114]⟩ : ByteArray), (⟨#[112, 97, 116, 104]⟩ : ByteArray), (⟨#[112, 97, 116, 104, 95, 110, 97, 109, 101, 115, 112, 97, 99, 101]⟩ : ByteArray), (⟨#[100, 101, 115, 116, 105, 110, 97, 116, 105, 111, 110]⟩ : ByteArray), (⟨#[]⟩ : ByteArray), (⟨#[]⟩ : ByteArray), (⟨#[97, 114, 103, 48, 110, 97, 109, 101, 115, 112, 97, 99, 101]⟩ : ByteArray), (⟨#[101, 97, 118, 101, 115, 100, 114, 111, 112]⟩ : ByteArray)] : List ByteArray)) := ⟨_, rfl⟩
   replace H : (if 0 ≤ a0 then (if a0 < (y164.length : Int) then (some (rdOf ByteArray.empty y164 a0)) else (none)) else (none)) = some r := by first | (rw [hy164]; with_reducible exact H) | (have H2_ := (Option.bind_some _ _).symm.trans H; rw [hy164]; with_reducible exact H2_) | (have H2_ := (Option.bind_some _ _).symm.trans H; with_reducible exact H2_) | with_reducible exact H | (rw [hy164]; exact H) | exact H
   have Ny164 := Aside0.mk hy164
   clear hy164
   by_cases c12 : 0 ≤ a0
   ·rw [if_pos c12] at H
    have c12b0 : decide (0 ≤ a0) = true := decide_eq_true c12
    clear c12
    by_cases c13 : a0 < (y164.length : Int)
    ·rw [if_pos c13] at H
     have c13b0 : decide (a0 < (y164.length : Int)) = true := decide_eq_true c13
     clear c13
     obtain rfl := Option.some.inj H
     go_enter Tryd.func13, Tryd.ntmps13
     go_wp2_with (first | ((with_reducible refine gate_dst (N := 19) rfl ?_); refine Kd.R_lit Kd.string _ 9 ?hg (N := 19) ?hd (xs := ([(⟨#[115, 101, 110, 100, 101, 114]⟩ : ByteArray), (⟨#[105, 110, 116, 101, 114, 102, 97, 99, 101]⟩ : ByteArray), (⟨#[109, 101, 109, 98, 101, 114]⟩ : ByteArray), (⟨#[112, 97, 116, 104]⟩ : ByteArray), (⟨#[112, 97, 116, 104, 95, 110, 97, 109, 101, 115, 112, 97, 99, 101]⟩ : ByteArray), (⟨#[100, 101, 115, 116, 105, 110, 97, 116, 105, 111, 110]⟩ : ByteArray), (⟨#[]⟩ : ByteArray), (⟨#[]⟩ : ByteArray), (⟨#[97, 114, 103, 48, 110, 97, 109, 101, 115, 112, 97, 99, 101]⟩ : ByteArray), (⟨#[101, 97, 118, 101, 115, 100, 114, 111, 112]⟩ : ByteArray)] : List ByteArray)) (inner := [.string (⟨#[115, 101, 110, 100, 101, 114]⟩ : ByteArray), .string (⟨#[105, 110, 116, 101, 114, 102, 97, 99, 101]⟩ : ByteArray), .string (⟨#[109, 101, 109, 98, 101, 114]⟩ : ByteArray), .string (⟨#[112, 97, 116, 104]⟩ : ByteArray), .string (⟨#[112, 97, 116, 104, 95, 110, 97, 109, 101, 115, 112, 97, 99, 101]⟩ : ByteArray), .string (⟨#[100, 101, 115, 116, 105, 110, 97, 116, 105, 111, 110]⟩ : ByteArray), .string (⟨#[]⟩ : ByteArray), .string (⟨#[]⟩ : ByteArray), .string (⟨#[97, 114, 103, 48, 110, 97, 109, 101, 115, 112, 97, 99, 101]⟩ : ByteArray), .string (⟨#[101, 97, 118, 101, 115, 100, 114, 111, 112]⟩ : ByteArray)]) (ok := fun _ => True) (okp := fun _ => True) ?hr ?hp (fun _ hk => hk) trivial (Below.refl _ _) (Nat.le_refl _) (by simp) ?_; (case hd => rfl); (case hg => rfl); (case hr => first | (go_simp; done) | (go_simp; rfl)); (case hp => exact (Reps.one (show Kd.M Kd.string _ _ _ (⟨#[115, 101, 110, 100, 101, 114]⟩ : ByteArray) [.string (⟨#[115, 101, 110, 100, 101, 114]⟩ : ByteArray)] from rfl) (Reps.one (show Kd.M Kd.string _ _ _ (⟨#[105, 110, 116, 101, 114, 102, 97, 99, 101]⟩ : ByteArray) [.string (⟨#[105, 110, 116, 101, 114, 102, 97, 99, 101]⟩ : ByteArray)] from rfl) (Reps.one (show Kd.M Kd.string _ _ _ (⟨#[109, 101, 109, 98, 101, 114]⟩ : ByteArray) [.string (⟨#[109, 101, 109, 98, 101, 114]⟩ : ByteArray)] from rfl) (Reps.one (show Kd.M Kd.string _ _ _ (⟨#[112, 97, 116, 104]⟩ : ByteArray) [.string (⟨#[112, 97, 116, 104]⟩ : ByteArray)] from rfl) (Reps.one (show Kd.M Kd.string _ _ _ (⟨#[112, 97, 116, 104, 95, 110, 97, 109, 101, 115, 112, 97, 99, 101]⟩ : ByteArray) [.string (⟨#[112, 97, 116, 104, 95, 110, 97, 109, 101, 115, 112, 97, 99, 101]⟩ : ByteArray)] from rfl) (Reps.one (show Kd.M Kd.string _ _ _ (⟨#[100, 101, 115, 116, 105, 110, 97, 116, 105, 111, 110]⟩ : ByteArray) [.string (⟨#[100, 101, 115, 116, 105, 110, 97, 116, 105, 111, 110]⟩ : ByteArray)] from rfl) (Reps.one (show Kd.M Kd.string _ _ _ (⟨#[]⟩ : ByteArray) [.string (⟨#[]⟩ : ByteArray)] from rfl) (Reps.one (show Kd.M Kd.string _ _ _ (⟨#[]⟩ : ByteArray) [.string (⟨#[]⟩ : ByteArray)] from rfl) (Reps.one (show Kd.M Kd.string _ _ _ (⟨#[97, 114, 103, 48, 110, 97, 109, 101, 115, 112, 97, 99, 101]⟩ : ByteArray) [.string (⟨#[97, 114, 103, 48, 110, 97, 109, 101, 115, 112, 97, 99, 101]⟩ : ByteArray)] from rfl) (Reps.one (show Kd.M Kd.string _ _ _ (⟨#[101, 97, 118, 101, 115, 100, 114, 111, 112]⟩ : ByteArray) [.string (⟨#[101, 97, 118, 101, 115, 100, 114, 111, 112]⟩ : ByteArray)] from rfl) (Reps.none _ _)))))))))))); intro v165 w14 ho15 hb hg_ hnew_; clear hg_ hnew_; (first | rw [← Ny164.out] at ho15 | (simp only [Int.reduceToNat] at ho15; rw [← Ny164.out] at ho15)); have n0_ := Aside0.mk (Kd.R_lower ho15 (below_size (by repeat (first | (with_reducible first | exact HB.out | apply below_alloc | apply pw_below_drewN | apply below_drew1) | exact HB.out)))); have n1_ := Aside0.mk (below_step (by repeat (first | (with_reducible first | exact HB.out | apply below_alloc | apply pw_below_drewN | apply below_drew1) | exact HB.out)) hb); clear HB; have HO166 := n0_; have HB := n1_; clear n0_ n1_; clear hb ho15; obtain ⟨Ao16, co16, eo16⟩ := Kd.R_slice HO166.out; subst eo16; have p167 : 0 ≤ (a0 : Int) := of_decide_eq_true (by first | (with_reducible assumption) | assumption); have q167 : a0 < (y164.length : Int) := of_decide_eq_true (by first | (with_reducible assumption) | assumption); obtain ⟨ad167, e167, hx167_0⟩ := Kd.at_string (Kd.R_reads' HO166.out).2.2 a0 p167 q167; cases e167; replace p167 := eq_true p167; replace q167 := eq_true q167))
     go_ret
     exact ⟨by first | rfl | (simp [errW_none, errW_some] <;> rfl) | (simp [*, errW_none, errW_some] <;> rfl), by repeat (first | (with_reducible first | exact HB.out | apply below_alloc | apply pw_below_drewN | apply below_drew1) | exact HB.out)⟩
    ·rw [if_neg c13] at H
     exact absurd H (by simp)
   ·rw [if_neg c12] at H
    exact absurd H (by simp)

end Go.Proofs.YtoldgnmgjpjapaaDoor.Q
