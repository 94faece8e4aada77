-- Written by a program of this session out of the translation; Lean checks it.
import Derived.Test.YtoldgnmgjpjapaaQ0
import Derived.Test.YtoldgnmgjpjapaaMt
import Derived.Test.YtoldgnmgjpjapaaQ1
import Derived.Test.YtoldgnmgjpjapaaQ2
namespace Go.Proofs.Ytoldgnmgjpjapaa.Q
open Go.RowKit Go.Proofs.Ytoldgnmgjpjapaa.Mt Go.Proofs.YtoldgnmgjpjapaaW.PrintWords Go.Proofs.YtoldgnmgjpjapaaW.PrintLast Go.Proofs.YtoldgnmgjpjapaaW.PrintMore
attribute [local go_sem] max2_int min2_int max_two min_two max_three min_three max_four min_four   -- for this text's walks alone
set_option linter.unusedVariables false
set_option linter.unusedSimpArgs false

/-! ### dbus_WithMatchOption: function 11 -/
def dbus_WithMatchOption.f (a0 : ByteArray) (a1 : ByteArray) : Option (ByteArray × ByteArray) := some (a0, a1)
set_option maxHeartbeats 8000000 in
set_option maxRecDepth 100000 in
theorem dbus_WithMatchOption.calls (a0 : ByteArray) (a1 : ByteArray) (r1 : ByteArray) (r2 : ByteArray) (w : World) (h : dbus_WithMatchOption.f a0 a1 = some (r1, r2)) :
    Calls Try.prog 11 #[.string a0, .string a1] w fun e w' => e = .returned (.agg #[.string r1, .string r2]) ∧ Below w.heap.size w w' := by
  have hu36 := Try.underlying36
  have HB := Aside0.mk (Below.refl w.heap.size w)
  have H : (some (a0, a1)) = some (r1, r2) := h
  clear h
  simp only [Option.some.injEq, Prod.mk.injEq] at H
  obtain ⟨rfl, rfl⟩ := H
  go_enter Try.func11, Try.ntmps11
  go_wp2_with (first | ((with_reducible refine gate_dst (N := 4) rfl ?_); refine box_event ?hg (N := 4) ?hd (cs := #[.string (⟨#[]⟩ : ByteArray), .string (⟨#[]⟩ : ByteArray)]) (t := 36) ?hr ?_; (case hd => rfl); (case hg => rfl); (case hr => first | (go_simp; done) | (go_simp; rfl)); intro gb110 hg w3 hbox hb; have n0_ := Aside0.mk (below_step (by repeat (first | (with_reducible first | exact HB.out | apply below_alloc | apply pw_below_drewN | apply below_drew1) | exact HB.out)) hb); have n1_ := Aside0.mk (hbox); have n2_ := Aside0.mk ((by rw [hg]; exact (below_size (by repeat (first | (with_reducible first | exact HB.out | apply below_alloc | apply pw_below_drewN | apply below_drew1) | exact HB.out))) : w.heap.size ≤ gb110)); have n3_ := Aside0.mk ((by rw [hg]; exact (below_size (by repeat (first | (with_reducible first | exact HB.out | apply below_alloc | apply pw_below_drewN | apply below_drew1) | exact HB.out))) : w.heap.size ≤ gb110)); clear HB; have HB := n0_; have BK110 := n1_; have GW110 := n2_; have GE110 := n3_; clear n0_ n1_ n2_ n3_; clear hb hbox hg; have hcz4_0 : w3.cell? ⟨gb110, 0, none⟩ = some (.string (⟨#[]⟩ : ByteArray)) := (blk_cell BK110.out 0).trans rfl; have hcz4_1 : w3.cell? ⟨gb110, 1, none⟩ = some (.string (⟨#[]⟩ : ByteArray)) := (blk_cell BK110.out 1).trans rfl; have hfz4_0 := blk_frozen BK110.out 0; have hfz4_1 := blk_frozen BK110.out 1))
  refine bodyPost_ret (results_cell_row rfl _ _ gb110 36 #[.string a0, .string a1] (0, 0) _ rfl (by (with_reducible repeat (first | refine blk_drewN ?_ _ | refine blk_drew ?_ | refine blk_alloc ?_ _)); refine blk_put (cs := #[.string a0, .string (⟨#[]⟩ : ByteArray)]) ?_ 1 _ rfl; (with_reducible repeat (first | refine blk_drewN ?_ _ | refine blk_drew ?_ | refine blk_alloc ?_ _)); refine blk_put (cs := #[.string (⟨#[]⟩ : ByteArray), .string (⟨#[]⟩ : ByteArray)]) ?_ 0 _ rfl; (with_reducible repeat (first | refine blk_drewN ?_ _ | refine blk_drew ?_ | refine blk_alloc ?_ _)); exact BK110.out) Try.underlying36 rfl (by kernel_rfl)) rfl ?_
  exact ⟨by first | rfl | (simp [errW_none, errW_some] <;> rfl) | (simp [*, errW_none, errW_some] <;> rfl), by repeat (first | (with_reducible first | exact HB.out | apply below_alloc | apply pw_below_drewN | apply below_drew1 | refine below_set ?_ GE110.out) | exact HB.out)⟩

-- BY HAND: function 13 (dbus_formatMatchOptions), in Derived.Test.YtoldgnmgjpjapaaMt

/-! ### dbus_DoorRule: function 12 -/
def dbus_DoorRule.f (l0 : List (S36)) : Option (ByteArray) := (dbus_formatMatchOptions.f l0).bind fun t111 => (some t111)
set_option maxHeartbeats 8000000 in
set_option maxRecDepth 100000 in
theorem dbus_DoorRule.calls (A0 : Option Addr) (c0 : Nat) (l0 : List (S36)) (r : ByteArray) (w : World) (hr0 : Kd.C k36 w A0 l0.length l0) (hc0 : l0.length ≤ c0) (h : dbus_DoorRule.f l0 = some r) :
    Calls Try.prog 12 #[.slice A0 l0.length c0] w fun e w' => e = .returned (.string r) ∧ Below w.heap.size w w' := by
  have HR0 := Aside0.mk hr0
  have HC0 := Aside0.mk hc0
  clear hr0 hc0
  have HB := Aside0.mk (Below.refl w.heap.size w)
  have H : ((dbus_formatMatchOptions.f l0).bind fun t111 => (some t111)) = some r := h
  clear h
  replace H := Option.bind_eq_some_iff.mp H
  obtain ⟨t111, A20, H⟩ := H
  replace H : (some t111) = some r := H
  have A2 := Aside0.mk A20
  clear A20
  obtain rfl := Option.some.inj H
  go_enter Try.func12, Try.ntmps12
  go_wp2_with (first | ((with_reducible refine gate_callee (f := 13) rfl ?_); refine goesL_ (some 4) rfl rfl Try.func13 (by kernel_rfl) rfl #[.slice A0 l0.length c0] rfl (by (try simp only [List.map_toArray, List.map_cons, List.map_nil]); first | done | rfl | (simp only [List.length_drop, List.length_take]; rfl)) ?_; (with_reducible refine (dbus_formatMatchOptions.calls _ _ l0 t111 _ ?side1 ?side2 A2.out).mono ?_); (case side1 => repeat (first | exact HR0.out | (with_reducible refine Kd.C_alloc ?_ _) | (with_reducible refine Kd.C_drewN ?_ _) | (with_reducible refine Kd.C_drew ?_))); (case side2 => exact HC0.out); rintro e w3 ⟨rfl, hb⟩; refine ⟨_, rfl, ?_⟩; have n0_ := Aside0.mk (below_step (by repeat (first | (with_reducible first | exact HB.out | apply below_alloc | apply pw_below_drewN | apply below_drew1) | exact HB.out)) hb); clear HB; have HB := n0_; clear n0_; (try clear hb); (try clear hb2); (try clear hk); (try clear hi)))
  go_ret
  exact ⟨by first | rfl | (simp [errW_none, errW_some] <;> rfl) | (simp [*, errW_none, errW_some] <;> rfl), by repeat (first | (with_reducible first | exact HB.out | apply below_alloc | apply pw_below_drewN | apply below_drew1) | exact HB.out)⟩

/-! ### impl_MtRule: function 8 -/
def impl_MtRule.l0 : Nat → List (S36) → List (S30) → Int → Int → Option (ByteArray)
  | 0, _, _, _, _ => none
  | k + 1, x3, x6, x7, x8 => if x8 < x7 then (if 0 ≤ x8 then (if x8 < (x6.length : Int) then ((dbus_WithMatchOption.f ((rd_T30 x6 x8).f0) ((rd_T30 x6 x8).f1)).bind fun bt114 => (if x3.length < 4398046511104 then (impl_MtRule.l0 k (x3 ++ [(⟨bt114.1, bt114.2⟩ : S36)]) x6 x7 (wrap64 (x8 + 1))) else (none))) else (none)) else (none)) else ((dbus_DoorRule.f x3).bind fun t119 => (some t119))
def impl_MtRule.f (k : Nat) (l0 : List (S30)) : Option (ByteArray) := impl_MtRule.l0 k ([] : List (S36)) l0 (l0.length : Int) 0
theorem impl_MtRule.mono_l : ∀ k, (∀ y0 y1 y2 y3, LeO (impl_MtRule.l0 k y0 y1 y2 y3) (impl_MtRule.l0 (k + 1) y0 y1 y2 y3))
  | 0 => fun _ _ _ _ r h => by simp [impl_MtRule.l0] at h
  | k + 1 => by
    have ih0 := impl_MtRule.mono_l k
    · intro y0 y1 y2 y3
      unfold impl_MtRule.l0
      repeat' first
      | (with_reducible exact ih0 _ _ _ _)
      | (with_reducible exact LeO.refl _)
      | (with_reducible exact LeO.none _)
      | (with_reducible refine LeO.ite ?_ ?_)
      | (with_reducible refine LeO.bind ?_ (fun _ => ?_))
      | exact ih0 _ _ _ _
      | exact LeO.none _
      | refine LeO.ite ?_ ?_
      | refine LeO.bind ?_ (fun _ => ?_)
theorem impl_MtRule.mono : ∀ a0 k, LeO (impl_MtRule.f k a0) (impl_MtRule.f (k + 1) a0) := by
  intro a0 k
  have ih0 := impl_MtRule.mono_l k
  unfold impl_MtRule.f
  repeat' first
      | (with_reducible exact ih0 _ _ _ _)
      | (with_reducible exact LeO.refl _)
      | (with_reducible exact LeO.none _)
      | (with_reducible refine LeO.ite ?_ ?_)
      | (with_reducible refine LeO.bind ?_ (fun _ => ?_))
      | exact ih0 _ _ _ _
      | exact LeO.none _
      | refine LeO.ite ?_ ?_
      | refine LeO.bind ?_ (fun _ => ?_)
set_option maxHeartbeats 8000000 in
set_option maxRecDepth 100000 in
theorem impl_MtRule.calls (k : Nat) (A0 : Option Addr) (c0 : Nat) (l0 : List (S30)) (r : ByteArray) (w : World) (hr0 : Kd.C k30 w A0 l0.length l0) (hc0 : l0.length ≤ c0) (h : impl_MtRule.f k l0 = some r) :
    Calls Try.prog 8 #[.slice A0 l0.length c0] w fun e w' => e = .returned (.string r) ∧ Below w.heap.size w w' := by
  have hu30 := Try.underlying30
  have HR0 := Aside0.mk hr0
  have HC0 := Aside0.mk hc0
  clear hr0 hc0
  have HB := Aside0.mk (Below.refl w.heap.size w)
  have H : (impl_MtRule.l0 k ([] : List (S36)) l0 (l0.length : Int) 0) = some r := h
  clear h
  have H' := Aside0.mk H
  clear H
  go_enter Try.func8, Try.ntmps8
  go_wp2
  go_loopg [3, 8] k (fun kq v3 v8 w' => ∃ (x3_1 : List (S36)) (x8_1 : Int), v8 = .int .i64 x8_1 ∧ Aside0 (impl_MtRule.l0 kq x3_1 l0 (l0.length : Int) x8_1 = some r) ∧ Aside0 (kq ≤ k) ∧ Aside0 (Kd.R k36 36 w' w.heap.size (fun _ => True) v3 x3_1) ∧ Aside0 (Below w.heap.size w w'))
  case atStart => exact ⟨(([] : List (S36))), (0), (by first | rfl | (simp; done) | (simp [*]; done)), H', ⟨Nat.le_refl _⟩, ⟨by first | exact Kd.R_nil _ _ _ _ _ | exact Kd.N_nil _ _ _ _ _ | exact Kd.V_nil _ _ _ _ _ | exact Kd.Q_nil _ _ _ _ _ | exact Kd.S_nil _ _ _ _ _⟩, ⟨by repeat (first | (with_reducible first | exact HB.out | apply below_alloc | apply pw_below_drewN | apply below_drew1) | exact HB.out)⟩⟩
  case round =>
    clear H'
    obtain ⟨x3_1, x8_1, rfl, HA, HK1, HO_3, HB⟩ := hrel
    cases gk with
    | zero => exact absurd HA.out (by simp [impl_MtRule.l0])
    | succ k1 =>
      have H := HA.out
      clear HA
      simp only [impl_MtRule.l0] at H
      by_cases c2 : x8_1 < (l0.length : Int)
      · rw [if_pos c2] at H
        have c2b0 : decide (x8_1 < (l0.length : Int)) = true := decide_eq_true c2
        clear c2
        by_cases c3 : 0 ≤ x8_1
        · rw [if_pos c3] at H
          have c3b0 : decide (0 ≤ x8_1) = true := decide_eq_true c3
          clear c3
          by_cases c4 : x8_1 < (l0.length : Int)
          · rw [if_pos c4] at H
            have c4b0 : decide (x8_1 < (l0.length : Int)) = true := decide_eq_true c4
            clear c4
            replace H := Option.bind_eq_some_iff.mp H
            obtain ⟨⟨t114, t115⟩, A50, H⟩ := H
            replace H : (if x3_1.length < 4398046511104 then (impl_MtRule.l0 k1 (x3_1 ++ [(⟨t114, t115⟩ : S36)]) l0 (l0.length : Int) (wrap64 (x8_1 + 1))) else (none)) = some r := H
            have A5 := Aside0.mk A50
            clear A50
            by_cases c6 : x3_1.length < 4398046511104
            · rw [if_pos c6] at H
              have LMc6 := Aside0.mk c6
              clear c6
              obtain ⟨y116, hy116⟩ : ∃ y_ : List (S36), y_ = (x3_1 ++ [(⟨t114, t115⟩ : S36)]) := ⟨_, rfl⟩
              replace H : (impl_MtRule.l0 k1 y116 l0 (l0.length : Int) (wrap64 (x8_1 + 1))) = some r := by first | (rw [hy116]; with_reducible exact H) | (have H2_ := (Option.bind_some _ _).symm.trans H; rw [hy116]; with_reducible exact H2_) | (have H2_ := (Option.bind_some _ _).symm.trans H; with_reducible exact H2_) | with_reducible exact H | (rw [hy116]; exact H) | exact H
              have Ny116 := Aside0.mk hy116
              clear hy116
              have H' := Aside0.mk H
              clear H
              have p112 : 0 ≤ (x8_1 : Int) := of_decide_eq_true (by first | (with_reducible assumption) | assumption)
              have q112 : x8_1 < (l0.length : Int) := of_decide_eq_true (by first | (with_reducible assumption) | assumption)
              obtain ⟨ad112, e112, hx112_0, hx112_1⟩ := at_T30 HR0.out x8_1 p112 q112
              cases e112
              replace hx112_0 := (HB.out.cell (World.block_lt_of_cell? w _ hx112_0)).trans hx112_0
              replace hx112_1 := (HB.out.cell (World.block_lt_of_cell? w _ hx112_1)).trans hx112_1
              replace p112 := eq_true p112
              replace q112 := eq_true q112
              go_wp2_with (first | ((with_reducible refine gate_dst (N := 5) rfl ?_); refine box_event ?hg (N := 5) ?hd (cs := #[.string (⟨#[]⟩ : ByteArray), .string (⟨#[]⟩ : ByteArray)]) (t := 30) ?hr ?_; (case hd => rfl); (case hg => rfl); (case hr => first | (go_simp; done) | (go_simp; rfl)); intro gb113 hg w7 hbox hb; have n0_ := Aside0.mk (Kd.R_below (by (with_reducible repeat (first | apply Kd.R_alloc | apply Kd.R_drewN | apply Kd.R_drew)); exact HO_3.out) hb); have n1_ := Aside0.mk (below_step (by repeat (first | (with_reducible first | exact HB.out | apply below_alloc | apply pw_below_drewN | apply below_drew1) | exact HB.out)) hb); have n2_ := Aside0.mk (hbox); have n3_ := Aside0.mk ((by rw [hg]; exact (below_size (by repeat (first | (with_reducible first | exact HB.out | apply below_alloc | apply pw_below_drewN | apply below_drew1) | exact HB.out))) : w.heap.size ≤ gb113)); have n4_ := Aside0.mk ((by rw [hg]; exact (below_size (by repeat (first | (with_reducible first | exact HB.out | apply below_alloc | apply pw_below_drewN | apply below_drew1) | exact HB.out))) : w.heap.size ≤ gb113)); clear HO_3; clear HB; have HO_3 := n0_; have HB := n1_; have BK113 := n2_; have GW113 := n3_; have GE113 := n4_; clear n0_ n1_ n2_ n3_ n4_; clear hb hbox hg; have hcz8_0 : w7.cell? ⟨gb113, 0, none⟩ = some (.string (⟨#[]⟩ : ByteArray)) := (blk_cell BK113.out 0).trans rfl; have hcz8_1 : w7.cell? ⟨gb113, 1, none⟩ = some (.string (⟨#[]⟩ : ByteArray)) := (blk_cell BK113.out 1).trans rfl; have hfz8_0 := blk_frozen BK113.out 0; have hfz8_1 := blk_frozen BK113.out 1) | ((with_reducible refine gate_callee (f := 11) rfl ?_); refine goesL_ (some 17) rfl rfl Try.func11 (by kernel_rfl) rfl #[.string ((rd_T30 l0 x8_1).f0), .string ((rd_T30 l0 x8_1).f1)] rfl (by (try simp only [List.map_toArray, List.map_cons, List.map_nil]); first | done | rfl | (simp only [List.length_drop, List.length_take]; rfl)) ?_; (with_reducible refine (dbus_WithMatchOption.calls ((rd_T30 l0 x8_1).f0) ((rd_T30 l0 x8_1).f1) t114 t115 _ A5.out).mono ?_); rintro e w9 ⟨rfl, hb⟩; refine ⟨_, rfl, ?_⟩; have n0_ := Aside0.mk (Kd.R_below (by (with_reducible repeat (first | apply Kd.R_alloc | apply Kd.R_drewN | apply Kd.R_drew)); exact (Kd.R_mono (Kd.R_far (p := ⟨gb113, 1, none⟩) (Kd.R_far (p := ⟨gb113, 0, none⟩) (Kd.R_types HO_3.out BK113.out (by decide)) (fun _ hk => hk.2) (.string ((rd_T30 l0 x8_1).f0))) (fun _ hk => hk.2) (.string ((rd_T30 l0 x8_1).f1))) (fun _ h_ => h_.1))) hb); have n1_ := Aside0.mk (blk_below (g := gb113) (o := .cells #[.string ((rd_T30 l0 x8_1).f0), .string ((rd_T30 l0 x8_1).f1)] 30 (0, 0)) (by (with_reducible repeat (first | refine blk_drewN ?_ _ | refine blk_drew ?_ | refine blk_alloc ?_ _)); refine blk_put (cs := #[.string ((rd_T30 l0 x8_1).f0), .string (⟨#[]⟩ : ByteArray)]) ?_ 1 _ rfl; (with_reducible repeat (first | refine blk_drewN ?_ _ | refine blk_drew ?_ | refine blk_alloc ?_ _)); refine blk_put (cs := #[.string (⟨#[]⟩ : ByteArray), .string (⟨#[]⟩ : ByteArray)]) ?_ 0 _ rfl; (with_reducible repeat (first | refine blk_drewN ?_ _ | refine blk_drew ?_ | refine blk_alloc ?_ _)); exact BK113.out) hb); have n2_ := Aside0.mk (below_step (by repeat (first | (with_reducible first | exact HB.out | apply below_alloc | apply pw_below_drewN | apply below_drew1 | refine below_set ?_ GE113.out) | exact HB.out)) hb); clear HO_3; clear BK113; clear HB; have HO_3 := n0_; have BK113 := n1_; have HB := n2_; clear n0_ n1_ n2_; (try clear hb); (try clear hb2); (try clear hk); (try clear hi)) | ((with_reducible refine gate_builtin (b := .append) (xs := #[.tmp 12, .tmp 18]) rfl ?_); at_builtin; refine Kd.R_append k36 (w0 := w) w.heap.size rfl (.tmp 12) (.tmp 18) 34 36 (.agg #[(.string ⟨#[]⟩), (.string ⟨#[]⟩)]) 32 rfl Try.underlying34 info36 rfl (by decide) (by omega) u3 x3_1 (⟨t114, t115⟩ : S36) [.string t114, .string t115] (fun _ => True) (fun _ => False) rfl rfl ?aP (fun _ hk => hk.elim) ?aF ?aO ?aB ?aS ?aL ?_; (case aP => exact k36_mkM _ _ _ (⟨t114, t115⟩ : S36)); (case aB => exact (by repeat (first | (with_reducible first | exact HB.out | apply below_alloc | apply pw_below_drewN | apply below_drew1 | refine below_set ?_ GE113.out) | exact HB.out))); (case aF => exact (fun _ _ => trivial)); (case aO => exact (by (with_reducible repeat (first | apply Kd.R_alloc | apply Kd.R_drewN | apply Kd.R_drew)); exact HO_3.out)); (case aS => exact (below_size (by repeat (first | (with_reducible first | exact HB.out | apply below_alloc | apply pw_below_drewN | apply below_drew1 | refine below_set ?_ GE113.out) | exact HB.out)))); (case aL => have := LMc6.out; omega); intro v117 w10 ho hb hg hat; rw [← Ny116.out] at ho; have n0_ := Aside0.mk (blk_grown (g := gb113) (o := .cells #[.string ((rd_T30 l0 x8_1).f0), .string ((rd_T30 l0 x8_1).f1)] 30 (0, 0)) (by (with_reducible repeat (first | refine blk_drewN ?_ _ | refine blk_drew ?_ | refine blk_alloc ?_ _)); exact BK113.out) hg (Kd.R_ne HO_3.out BK113.out (by decide))); have n1_ := Aside0.mk (hb); have n2_ := Aside0.mk (ho); clear BK113; clear HB; clear HO_3; have BK113 := n0_; have HB := n1_; have HO118 := n2_; clear n0_ n1_ n2_; clear ho hb hg hat))
              go_roundg k1
              case measure => have := HK1.out; omega
              case rel => exact ⟨(y116), (wrap64 (x8_1 + 1)), (by first | rfl | (simp; done) | (simp [*]; done)), H', ⟨by have := HK1.out; omega⟩, ⟨by (with_reducible repeat (first | apply Kd.R_alloc | apply Kd.R_drewN | apply Kd.R_drew)); exact HO118.out⟩, ⟨by repeat (first | (with_reducible first | exact HB.out | apply below_alloc | apply pw_below_drewN | apply below_drew1 | refine below_set ?_ GE113.out) | exact HB.out)⟩⟩
            · rw [if_neg c6] at H
              exact absurd H (by simp)
          · rw [if_neg c4] at H
            exact absurd H (by simp)
        · rw [if_neg c3] at H
          exact absurd H (by simp)
      · rw [if_neg c2] at H
        have c2b0 : decide (x8_1 < (l0.length : Int)) = false := decide_eq_false c2
        clear c2
        replace H := Option.bind_eq_some_iff.mp H
        obtain ⟨t119, A110, H⟩ := H
        replace H : (some t119) = some r := H
        have A11 := Aside0.mk A110
        clear A110
        obtain rfl := Option.some.inj H
        obtain ⟨Ao12, co12, eo12⟩ := Kd.R_slice HO_3.out
        subst eo12
        go_wp2_with (first | ((with_reducible refine gate_callee (f := 12) rfl ?_); refine goesL_ (some 22) rfl rfl Try.func12 (by kernel_rfl) rfl #[.slice Ao12 x3_1.length co12] rfl (by (try simp only [List.map_toArray, List.map_cons, List.map_nil]); first | done | rfl | (simp only [List.length_drop, List.length_take]; rfl)) ?_; (with_reducible refine (dbus_DoorRule.calls _ _ x3_1 t119 _ ?side1 ?side2 A11.out).mono ?_); (case side1 => repeat (first | exact (Kd.R_reads' HO_3.out).2.2 | (with_reducible refine Kd.C_alloc ?_ _) | (with_reducible refine Kd.C_drewN ?_ _) | (with_reducible refine Kd.C_drew ?_))); (case side2 => exact (Kd.R_reads' HO_3.out).2.1); rintro e w13 ⟨rfl, hb⟩; refine ⟨_, rfl, ?_⟩; have n0_ := Aside0.mk (Kd.R_below (by (with_reducible repeat (first | apply Kd.R_alloc | apply Kd.R_drewN | apply Kd.R_drew)); exact HO_3.out) hb); have n1_ := Aside0.mk (below_step (by repeat (first | (with_reducible first | exact HB.out | apply below_alloc | apply pw_below_drewN | apply below_drew1) | exact HB.out)) hb); clear HO_3; clear HB; have HO_3 := n0_; have HB := n1_; clear n0_ n1_; (try clear hb); (try clear hb2); (try clear hk); (try clear hi)))
        go_ret
        exact ⟨by first | rfl | (simp [errW_none, errW_some] <;> rfl) | (simp [*, errW_none, errW_some] <;> rfl), by repeat (first | (with_reducible first | exact HB.out | apply below_alloc | apply pw_below_drewN | apply below_drew1) | exact HB.out)⟩

/-! ### laws_FnMtRuleRead: function 3 -/
mutual
def laws_FnMtRuleRead.j0 : Nat → List (S30) → List (S29) → Bool → Option (Bool)
  | 0, _, _, _ => none
  | k + 1, x0, x3, x26 => if x26 = true then (some false) else (laws_FnMtRuleRead.l0 k x0 x3 (x0.length : Int) 0)
def laws_FnMtRuleRead.l0 : Nat → List (S30) → List (S29) → Int → Int → Option (Bool)
  | 0, _, _, _, _ => none
  | k + 1, x0, x3, x28, x29 => if x29 < x28 then (if 0 ≤ x29 then (if x29 < (x3.length : Int) then (if x29 < (x0.length : Int) then (if ((rd_T29 x3 x29).f0).toList = ((rd_T30 x0 x29).f0).toList then (if ((rd_T29 x3 x29).f1).toList = ((rd_T30 x0 x29).f1).toList then (laws_FnMtRuleRead.l0 k x0 x3 x28 (wrap64 (x29 + 1))) else (some false)) else (some false)) else (none)) else (none)) else (none)) else ((impl_MtRule.f k (([(⟨(⟨#[97]⟩ : ByteArray), (⟨#[98]⟩ : ByteArray)⟩ : S30)] : List (S30)))).bind fun t134 => (some (t134.toList == ([97, 61, 39, 98, 39] : List UInt8))))
end
def laws_FnMtRuleRead.f (k : Nat) (l0 : List (S30)) : Option (Bool) := (laws_zzFits3.f k l0).bind fun t120 => (if t120 = true then ((laws_mtPlain.f k l0).bind fun t121 => (if t121 = true then ((impl_MtRule.f k l0).bind fun t122 => ((spec_ReadRule.f k t122).bind fun bt123 => (if bt123.2 = true then (laws_FnMtRuleRead.j0 k l0 bt123.1 ((bt123.1.length : Int) != (l0.length : Int))) else (laws_FnMtRuleRead.j0 k l0 bt123.1 true)))) else (some true))) else (some true))
theorem laws_FnMtRuleRead.mono_l : ∀ k, (∀ y0 y1 y2, LeO (laws_FnMtRuleRead.j0 k y0 y1 y2) (laws_FnMtRuleRead.j0 (k + 1) y0 y1 y2)) ∧ (∀ y0 y1 y2 y3, LeO (laws_FnMtRuleRead.l0 k y0 y1 y2 y3) (laws_FnMtRuleRead.l0 (k + 1) y0 y1 y2 y3))
  | 0 => ⟨fun _ _ _ r h => by simp [laws_FnMtRuleRead.j0] at h, fun _ _ _ _ r h => by simp [laws_FnMtRuleRead.l0] at h⟩
  | k + 1 => by
    obtain ⟨ih0, ih1⟩ := laws_FnMtRuleRead.mono_l k
    refine ⟨?_, ?_⟩
    · intro y0 y1 y2
      unfold laws_FnMtRuleRead.j0
      repeat' first
      | (with_reducible exact ih0 _ _ _)
      | (with_reducible exact ih1 _ _ _ _)
      | (with_reducible exact impl_MtRule.mono _ _)
      | (with_reducible exact laws_mtPlain.mono _ _)
      | (with_reducible exact laws_zzFits3.mono _ _)
      | (with_reducible exact spec_ReadRule.mono _ _)
      | (with_reducible exact LeO.refl _)
      | (with_reducible exact LeO.none _)
      | (with_reducible refine LeO.ite ?_ ?_)
      | (with_reducible refine LeO.bind ?_ (fun _ => ?_))
      | exact ih0 _ _ _
      | exact ih1 _ _ _ _
      | exact impl_MtRule.mono _ _
      | exact laws_mtPlain.mono _ _
      | exact laws_zzFits3.mono _ _
      | exact spec_ReadRule.mono _ _
      | exact LeO.none _
      | refine LeO.ite ?_ ?_
      | refine LeO.bind ?_ (fun _ => ?_)
    · intro y0 y1 y2 y3
      unfold laws_FnMtRuleRead.l0
      repeat' first
      | (with_reducible exact ih0 _ _ _)
      | (with_reducible exact ih1 _ _ _ _)
      | (with_reducible exact impl_MtRule.mono _ _)
      | (with_reducible exact laws_mtPlain.mono _ _)
      | (with_reducible exact laws_zzFits3.mono _ _)
      | (with_reducible exact spec_ReadRule.mono _ _)
      | (with_reducible exact LeO.refl _)
      | (with_reducible exact LeO.none _)
      | (with_reducible refine LeO.ite ?_ ?_)
      | (with_reducible refine LeO.bind ?_ (fun _ => ?_))
      | exact ih0 _ _ _
      | exact ih1 _ _ _ _
      | exact impl_MtRule.mono _ _
      | exact laws_mtPlain.mono _ _
      | exact laws_zzFits3.mono _ _
      | exact spec_ReadRule.mono _ _
      | exact LeO.none _
      | refine LeO.ite ?_ ?_
      | refine LeO.bind ?_ (fun _ => ?_)
theorem laws_FnMtRuleRead.mono : ∀ a0 k, LeO (laws_FnMtRuleRead.f k a0) (laws_FnMtRuleRead.f (k + 1) a0) := by
  intro a0 k
  obtain ⟨ih0, ih1⟩ := laws_FnMtRuleRead.mono_l k
  unfold laws_FnMtRuleRead.f
  repeat' first
      | (with_reducible exact ih0 _ _ _)
      | (with_reducible exact ih1 _ _ _ _)
      | (with_reducible exact impl_MtRule.mono _ _)
      | (with_reducible exact laws_mtPlain.mono _ _)
      | (with_reducible exact laws_zzFits3.mono _ _)
      | (with_reducible exact spec_ReadRule.mono _ _)
      | (with_reducible exact LeO.refl _)
      | (with_reducible exact LeO.none _)
      | (with_reducible refine LeO.ite ?_ ?_)
      | (with_reducible refine LeO.bind ?_ (fun _ => ?_))
      | exact ih0 _ _ _
      | exact ih1 _ _ _ _
      | exact impl_MtRule.mono _ _
      | exact laws_mtPlain.mono _ _
      | exact laws_zzFits3.mono _ _
      | exact spec_ReadRule.mono _ _
      | exact LeO.none _
      | refine LeO.ite ?_ ?_
      | refine LeO.bind ?_ (fun _ => ?_)
set_option maxHeartbeats 8000000 in
set_option maxRecDepth 100000 in
theorem laws_FnMtRuleRead.calls (k : Nat) (A0 : Option Addr) (c0 : Nat) (l0 : List (S30)) (r : Bool) (w : World) (hr0 : Kd.C k30 w A0 l0.length l0) (hc0 : l0.length ≤ c0) (h : laws_FnMtRuleRead.f k l0 = some r) :
    Calls Try.prog 3 #[.slice A0 l0.length c0] w fun e w' => e = .returned (.bool r) ∧ Below w.heap.size w w' := by
  have hu30 := Try.underlying30
  have HR0 := Aside0.mk hr0
  have HC0 := Aside0.mk hc0
  clear hr0 hc0
  have HB := Aside0.mk (Below.refl w.heap.size w)
  have H : ((laws_zzFits3.f k l0).bind fun t120 => (if t120 = true then ((laws_mtPlain.f k l0).bind fun t121 => (if t121 = true then ((impl_MtRule.f k l0).bind fun t122 => ((spec_ReadRule.f k t122).bind fun bt123 => (if bt123.2 = true then (laws_FnMtRuleRead.j0 k l0 bt123.1 ((bt123.1.length : Int) != (l0.length : Int))) else (laws_FnMtRuleRead.j0 k l0 bt123.1 true)))) else (some true))) else (some true))) = some r := h
  clear h
  replace H := Option.bind_eq_some_iff.mp H
  obtain ⟨t120, A20, H⟩ := H
  replace H : (if t120 = true then ((laws_mtPlain.f k l0).bind fun t121 => (if t121 = true then ((impl_MtRule.f k l0).bind fun t122 => ((spec_ReadRule.f k t122).bind fun bt123 => (if bt123.2 = true then (laws_FnMtRuleRead.j0 k l0 bt123.1 ((bt123.1.length : Int) != (l0.length : Int))) else (laws_FnMtRuleRead.j0 k l0 bt123.1 true)))) else (some true))) else (some true)) = some r := H
  have A2 := Aside0.mk A20
  clear A20
  by_cases c3 : t120 = true
  · subst c3
    have H1 : ((laws_mtPlain.f k l0).bind fun t121 => (if t121 = true then ((impl_MtRule.f k l0).bind fun t122 => ((spec_ReadRule.f k t122).bind fun bt123 => (if bt123.2 = true then (laws_FnMtRuleRead.j0 k l0 bt123.1 ((bt123.1.length : Int) != (l0.length : Int))) else (laws_FnMtRuleRead.j0 k l0 bt123.1 true)))) else (some true))) = some r := by rw [if_pos rfl] at H; exact H
    clear H
    have H := H1
    clear H1
    replace H := Option.bind_eq_some_iff.mp H
    obtain ⟨t121, A40, H⟩ := H
    replace H : (if t121 = true then ((impl_MtRule.f k l0).bind fun t122 => ((spec_ReadRule.f k t122).bind fun bt123 => (if bt123.2 = true then (laws_FnMtRuleRead.j0 k l0 bt123.1 ((bt123.1.length : Int) != (l0.length : Int))) else (laws_FnMtRuleRead.j0 k l0 bt123.1 true)))) else (some true)) = some r := H
    have A4 := Aside0.mk A40
    clear A40
    by_cases c5 : t121 = true
    · subst c5
      have H1 : ((impl_MtRule.f k l0).bind fun t122 => ((spec_ReadRule.f k t122).bind fun bt123 => (if bt123.2 = true then (laws_FnMtRuleRead.j0 k l0 bt123.1 ((bt123.1.length : Int) != (l0.length : Int))) else (laws_FnMtRuleRead.j0 k l0 bt123.1 true)))) = some r := by rw [if_pos rfl] at H; exact H
      clear H
      have H := H1
      clear H1
      replace H := Option.bind_eq_some_iff.mp H
      obtain ⟨t122, A60, H⟩ := H
      replace H : ((spec_ReadRule.f k t122).bind fun bt123 => (if bt123.2 = true then (laws_FnMtRuleRead.j0 k l0 bt123.1 ((bt123.1.length : Int) != (l0.length : Int))) else (laws_FnMtRuleRead.j0 k l0 bt123.1 true))) = some r := H
      have A6 := Aside0.mk A60
      clear A60
      replace H := Option.bind_eq_some_iff.mp H
      obtain ⟨⟨t123, t124⟩, A70, H⟩ := H
      replace H : (if t124 = true then (laws_FnMtRuleRead.j0 k l0 t123 ((t123.length : Int) != (l0.length : Int))) else (laws_FnMtRuleRead.j0 k l0 t123 true)) = some r := H
      have A7 := Aside0.mk A70
      clear A70
      have HC8 := Aside0.mk H
      clear H
      go_enter Try.func3, Try.ntmps3
      go_upto_region 6 with (first | (go_at_call 5; (with_reducible refine (laws_zzFits3.calls k _ _ l0 true _ ?side1 ?side2 A2.out).mono ?_); (case side1 => repeat (first | exact HR0.out | (with_reducible refine Kd.C_alloc ?_ _) | (with_reducible refine Kd.C_drewN ?_ _) | (with_reducible refine Kd.C_drew ?_))); (case side2 => exact HC0.out); rintro e w9 ⟨rfl, hb⟩; have n0_ := Aside0.mk (below_step (by repeat (first | (with_reducible first | exact HB.out | apply below_alloc | apply pw_below_drewN | apply below_drew1) | exact HB.out)) hb); clear HB; have HB := n0_; clear n0_; (try clear hb); (try clear hb2); (try clear hk); (try clear hi)) | (go_at_call 6; (with_reducible refine (laws_mtPlain.calls k _ _ l0 true _ ?side1 ?side2 A4.out).mono ?_); (case side1 => repeat (first | exact (Kd.C_below HR0.out HB.out) | (with_reducible refine Kd.C_alloc ?_ _) | (with_reducible refine Kd.C_drewN ?_ _) | (with_reducible refine Kd.C_drew ?_))); (case side2 => exact HC0.out); rintro e w10 ⟨rfl, hb⟩; have n0_ := Aside0.mk (below_step (by repeat (first | (with_reducible first | exact HB.out | apply below_alloc | apply pw_below_drewN | apply below_drew1) | exact HB.out)) hb); clear HB; have HB := n0_; clear n0_; (try clear hb); (try clear hb2); (try clear hk); (try clear hi)) | (go_at_call 8; (with_reducible refine (impl_MtRule.calls k _ _ l0 t122 _ ?side1 ?side2 A6.out).mono ?_); (case side1 => repeat (first | exact (Kd.C_below HR0.out HB.out) | (with_reducible refine Kd.C_alloc ?_ _) | (with_reducible refine Kd.C_drewN ?_ _) | (with_reducible refine Kd.C_drew ?_))); (case side2 => exact HC0.out); rintro e w11 ⟨rfl, hb⟩; have n0_ := Aside0.mk (below_step (by repeat (first | (with_reducible first | exact HB.out | apply below_alloc | apply pw_below_drewN | apply below_drew1) | exact HB.out)) hb); clear HB; have HB := n0_; clear n0_; (try clear hb); (try clear hb2); (try clear hk); (try clear hi)) | (go_at_call 7; (with_reducible refine (spec_ReadRule.calls k t122 t123 t124 _ A7.out).mono ?_); rintro e w12 ⟨v125, rfl, ho0, hb⟩; have n0_ := Aside0.mk (Kd.R_lower ho0 (below_size (by repeat (first | (with_reducible first | exact HB.out | apply below_alloc | apply pw_below_drewN | apply below_drew1) | exact HB.out)))); have n1_ := Aside0.mk (below_step (by repeat (first | (with_reducible first | exact HB.out | apply below_alloc | apply pw_below_drewN | apply below_drew1) | exact HB.out)) hb); clear HB; have HO126 := n0_; have HB := n1_; clear n0_ n1_; (try clear hb); (try clear hb2); (try clear hk); (try clear hi); (try clear ho0)))
      repeat (go_quiet (first | (go_at_call 5; (with_reducible refine (laws_zzFits3.calls k _ _ l0 true _ ?side1 ?side2 A2.out).mono ?_); (case side1 => repeat (first | exact HR0.out | (with_reducible refine Kd.C_alloc ?_ _) | (with_reducible refine Kd.C_drewN ?_ _) | (with_reducible refine Kd.C_drew ?_))); (case side2 => exact HC0.out); rintro e w9 ⟨rfl, hb⟩; have n0_ := Aside0.mk (below_step (by repeat (first | (with_reducible first | exact HB.out | apply below_alloc | apply pw_below_drewN | apply below_drew1) | exact HB.out)) hb); clear HB; have HB := n0_; clear n0_; (try clear hb); (try clear hb2); (try clear hk); (try clear hi)) | (go_at_call 6; (with_reducible refine (laws_mtPlain.calls k _ _ l0 true _ ?side1 ?side2 A4.out).mono ?_); (case side1 => repeat (first | exact (Kd.C_below HR0.out HB.out) | (with_reducible refine Kd.C_alloc ?_ _) | (with_reducible refine Kd.C_drewN ?_ _) | (with_reducible refine Kd.C_drew ?_))); (case side2 => exact HC0.out); rintro e w10 ⟨rfl, hb⟩; have n0_ := Aside0.mk (below_step (by repeat (first | (with_reducible first | exact HB.out | apply below_alloc | apply pw_below_drewN | apply below_drew1) | exact HB.out)) hb); clear HB; have HB := n0_; clear n0_; (try clear hb); (try clear hb2); (try clear hk); (try clear hi)) | (go_at_call 8; (with_reducible refine (impl_MtRule.calls k _ _ l0 t122 _ ?side1 ?side2 A6.out).mono ?_); (case side1 => repeat (first | exact (Kd.C_below HR0.out HB.out) | (with_reducible refine Kd.C_alloc ?_ _) | (with_reducible refine Kd.C_drewN ?_ _) | (with_reducible refine Kd.C_drew ?_))); (case side2 => exact HC0.out); rintro e w11 ⟨rfl, hb⟩; have n0_ := Aside0.mk (below_step (by repeat (first | (with_reducible first | exact HB.out | apply below_alloc | apply pw_below_drewN | apply below_drew1) | exact HB.out)) hb); clear HB; have HB := n0_; clear n0_; (try clear hb); (try clear hb2); (try clear hk); (try clear hi)) | (go_at_call 7; (with_reducible refine (spec_ReadRule.calls k t122 t123 t124 _ A7.out).mono ?_); rintro e w12 ⟨v125, rfl, ho0, hb⟩; have n0_ := Aside0.mk (Kd.R_lower ho0 (below_size (by repeat (first | (with_reducible first | exact HB.out | apply below_alloc | apply pw_below_drewN | apply below_drew1) | exact HB.out)))); have n1_ := Aside0.mk (below_step (by repeat (first | (with_reducible first | exact HB.out | apply below_alloc | apply pw_below_drewN | apply below_drew1) | exact HB.out)) hb); clear HB; have HO126 := n0_; have HB := n1_; clear n0_ n1_; (try clear hb); (try clear hb2); (try clear hk); (try clear hi); (try clear ho0))); go_upto_region 6 with (first | (go_at_call 5; (with_reducible refine (laws_zzFits3.calls k _ _ l0 true _ ?side1 ?side2 A2.out).mono ?_); (case side1 => repeat (first | exact HR0.out | (with_reducible refine Kd.C_alloc ?_ _) | (with_reducible refine Kd.C_drewN ?_ _) | (with_reducible refine Kd.C_drew ?_))); (case side2 => exact HC0.out); rintro e w9 ⟨rfl, hb⟩; have n0_ := Aside0.mk (below_step (by repeat (first | (with_reducible first | exact HB.out | apply below_alloc | apply pw_below_drewN | apply below_drew1) | exact HB.out)) hb); clear HB; have HB := n0_; clear n0_; (try clear hb); (try clear hb2); (try clear hk); (try clear hi)) | (go_at_call 6; (with_reducible refine (laws_mtPlain.calls k _ _ l0 true _ ?side1 ?side2 A4.out).mono ?_); (case side1 => repeat (first | exact (Kd.C_below HR0.out HB.out) | (with_reducible refine Kd.C_alloc ?_ _) | (with_reducible refine Kd.C_drewN ?_ _) | (with_reducible refine Kd.C_drew ?_))); (case side2 => exact HC0.out); rintro e w10 ⟨rfl, hb⟩; have n0_ := Aside0.mk (below_step (by repeat (first | (with_reducible first | exact HB.out | apply below_alloc | apply pw_below_drewN | apply below_drew1) | exact HB.out)) hb); clear HB; have HB := n0_; clear n0_; (try clear hb); (try clear hb2); (try clear hk); (try clear hi)) | (go_at_call 8; (with_reducible refine (impl_MtRule.calls k _ _ l0 t122 _ ?side1 ?side2 A6.out).mono ?_); (case side1 => repeat (first | exact (Kd.C_below HR0.out HB.out) | (with_reducible refine Kd.C_alloc ?_ _) | (with_reducible refine Kd.C_drewN ?_ _) | (with_reducible refine Kd.C_drew ?_))); (case side2 => exact HC0.out); rintro e w11 ⟨rfl, hb⟩; have n0_ := Aside0.mk (below_step (by repeat (first | (with_reducible first | exact HB.out | apply below_alloc | apply pw_below_drewN | apply below_drew1) | exact HB.out)) hb); clear HB; have HB := n0_; clear n0_; (try clear hb); (try clear hb2); (try clear hk); (try clear hi)) | (go_at_call 7; (with_reducible refine (spec_ReadRule.calls k t122 t123 t124 _ A7.out).mono ?_); rintro e w12 ⟨v125, rfl, ho0, hb⟩; have n0_ := Aside0.mk (Kd.R_lower ho0 (below_size (by repeat (first | (with_reducible first | exact HB.out | apply below_alloc | apply pw_below_drewN | apply below_drew1) | exact HB.out)))); have n1_ := Aside0.mk (below_step (by repeat (first | (with_reducible first | exact HB.out | apply below_alloc | apply pw_below_drewN | apply below_drew1) | exact HB.out)) hb); clear HB; have HO126 := n0_; have HB := n1_; clear n0_ n1_; (try clear hb); (try clear hb2); (try clear hk); (try clear hi); (try clear ho0))))
      (try simp only [Act.put, List.setIfInBounds_toArray, List.set_cons_zero, List.set_cons_succ])
      go_cut [26] (fun v26 wc => ∃ (kq : Nat) (x26_7 : Bool), v26 = .bool x26_7 ∧ Aside0 (laws_FnMtRuleRead.j0 kq l0 t123 x26_7 = some r) ∧ Aside0 (kq ≤ k) ∧ Aside0 (Kd.R k29 29 wc w.heap.size (fun _ => True) v125 t123) ∧ Aside0 (Below w.heap.size w wc))
      case first =>
        have H := HC8.out
        clear HC8
        by_cases c13 : t124 = true
        · subst c13
          have H1 : (laws_FnMtRuleRead.j0 k l0 t123 ((t123.length : Int) != (l0.length : Int))) = some r := by rw [if_pos rfl] at H; exact H
          clear H
          have H := H1
          clear H1
          have H' := Aside0.mk H
          clear H
          obtain ⟨Ao14, co14, eo14⟩ := Kd.R_slice HO126.out
          subst eo14
          go_wp2
          repeat (go_quiet (fail); try go_wp2)
          go_meet
          case rel => exact ⟨_, (((t123.length : Int) != (l0.length : Int))), (by first | rfl | (simp; done) | (simp [*]; done)), H', ⟨by first | omega | exact Nat.le_refl _⟩, ⟨by (with_reducible repeat (first | apply Kd.R_alloc | apply Kd.R_drewN | apply Kd.R_drew)); exact HO126.out⟩, ⟨by repeat (first | (with_reducible first | exact HB.out | apply below_alloc | apply pw_below_drewN | apply below_drew1) | exact HB.out)⟩⟩
        · replace c13 := Bool.eq_false_iff.mpr c13
          subst c13
          have H1 : (laws_FnMtRuleRead.j0 k l0 t123 true) = some r := by rw [if_neg (show ¬ (false = true) by decide)] at H; exact H
          clear H
          have H := H1
          clear H1
          have H' := Aside0.mk H
          clear H
          go_wp2
          repeat (go_quiet (fail); try go_wp2)
          go_meet
          case rel => exact ⟨_, (true), (by first | rfl | (simp; done) | (simp [*]; done)), H', ⟨by first | omega | exact Nat.le_refl _⟩, ⟨by (with_reducible repeat (first | apply Kd.R_alloc | apply Kd.R_drewN | apply Kd.R_drew)); exact HO126.out⟩, ⟨by repeat (first | (with_reducible first | exact HB.out | apply below_alloc | apply pw_below_drewN | apply below_drew1) | exact HB.out)⟩⟩
      case rest =>
        clear HC8
        try clear c1
        try clear p2
        try clear c3
        try clear c5
        try clear c13
        obtain ⟨kq, x26_7, rfl, HA, HJ7, HO_3, HB⟩ := hcut
        cases kq with
        | zero => exact absurd HA.out (by simp [laws_FnMtRuleRead.j0])
        | succ kj7 =>
          have H := HA.out
          clear HA
          simp only [laws_FnMtRuleRead.j0] at H
          by_cases c15 : x26_7 = true
          · subst c15
            have H1 : (some false) = some r := by rw [if_pos rfl] at H; exact H
            clear H
            have H := H1
            clear H1
            obtain rfl := Option.some.inj H
            go_wp2
            repeat (go_quiet (fail); try go_wp2)
            go_ret
            exact ⟨by first | rfl | (simp [errW_none, errW_some] <;> rfl) | (simp [*, errW_none, errW_some] <;> rfl), by repeat (first | (with_reducible first | exact HB.out | apply below_alloc | apply pw_below_drewN | apply below_drew1) | exact HB.out)⟩
          · replace c15 := Bool.eq_false_iff.mpr c15
            subst c15
            have H1 : (laws_FnMtRuleRead.l0 kj7 l0 t123 (l0.length : Int) 0) = some r := by rw [if_neg (show ¬ (false = true) by decide)] at H; exact H
            clear H
            have H := H1
            clear H1
            have H' := Aside0.mk H
            clear H
            go_wp2
            repeat (go_quiet (fail); try go_wp2)
            go_loopg [29] kj7 (fun kq v29 w' => ∃ (x29_2 : Int), v29 = .int .i64 x29_2 ∧ Aside0 (laws_FnMtRuleRead.l0 kq l0 t123 (l0.length : Int) x29_2 = some r) ∧ Aside0 (kq ≤ kj7) ∧ Aside0 (Kd.R k29 29 w' w.heap.size (fun _ => True) v125 t123) ∧ Aside0 (Below w.heap.size w w'))
            case atStart => exact ⟨(0), (by first | rfl | (simp; done) | (simp [*]; done)), H', ⟨Nat.le_refl _⟩, ⟨by (with_reducible repeat (first | apply Kd.R_alloc | apply Kd.R_drewN | apply Kd.R_drew)); exact HO_3.out⟩, ⟨by repeat (first | (with_reducible first | exact HB.out | apply below_alloc | apply pw_below_drewN | apply below_drew1) | exact HB.out)⟩⟩
            case round =>
              clear H'
              try clear c1
              try clear p2
              try clear c3
              try clear c5
              try clear c13
              try clear c15
              try clear p2
              obtain ⟨x29_2, rfl, HA, HK2, HO_3, HB⟩ := hrel
              cases gk with
              | zero => exact absurd HA.out (by simp [laws_FnMtRuleRead.l0])
              | succ k2 =>
                have H := HA.out
                clear HA
                simp only [laws_FnMtRuleRead.l0] at H
                by_cases c16 : x29_2 < (l0.length : Int)
                · rw [if_pos c16] at H
                  have c16b0 : decide (x29_2 < (l0.length : Int)) = true := decide_eq_true c16
                  clear c16
                  by_cases c17 : 0 ≤ x29_2
                  · rw [if_pos c17] at H
                    have c17b0 : decide (0 ≤ x29_2) = true := decide_eq_true c17
                    clear c17
                    by_cases c18 : x29_2 < (t123.length : Int)
                    · rw [if_pos c18] at H
                      have c18b0 : decide (x29_2 < (t123.length : Int)) = true := decide_eq_true c18
                      clear c18
                      by_cases c19 : x29_2 < (l0.length : Int)
                      · rw [if_pos c19] at H
                        have c19b0 : decide (x29_2 < (l0.length : Int)) = true := decide_eq_true c19
                        clear c19
                        by_cases c20 : ((rd_T29 t123 x29_2).f0).toList = ((rd_T30 l0 x29_2).f0).toList
                        · rw [if_pos c20] at H
                          have c20b0 : (((rd_T29 t123 x29_2).f0).toList == ((rd_T30 l0 x29_2).f0).toList) = true := beq_iff_eq.mpr c20
                          have c20b1 : (((rd_T29 t123 x29_2).f0).toList != ((rd_T30 l0 x29_2).f0).toList) = false := bne_eq_false_iff_eq.mpr c20
                          clear c20
                          by_cases c21 : ((rd_T29 t123 x29_2).f1).toList = ((rd_T30 l0 x29_2).f1).toList
                          · rw [if_pos c21] at H
                            have c21b0 : (((rd_T29 t123 x29_2).f1).toList == ((rd_T30 l0 x29_2).f1).toList) = true := beq_iff_eq.mpr c21
                            have c21b1 : (((rd_T29 t123 x29_2).f1).toList != ((rd_T30 l0 x29_2).f1).toList) = false := bne_eq_false_iff_eq.mpr c21
                            clear c21
                            have H' := Aside0.mk H
                            clear H
                            obtain ⟨Ao22, co22, eo22⟩ := Kd.R_slice HO_3.out
                            subst eo22
                            have p127 : 0 ≤ (x29_2 : Int) := of_decide_eq_true (by first | (with_reducible assumption) | assumption)
                            have q127 : x29_2 < (t123.length : Int) := of_decide_eq_true (by first | (with_reducible assumption) | assumption)
                            obtain ⟨ad127, e127, hx127_0, hx127_1⟩ := at_T29 (Kd.R_reads' HO_3.out).2.2 x29_2 p127 q127
                            cases e127
                            replace p127 := eq_true p127
                            replace q127 := eq_true q127
                            have p128 : 0 ≤ (x29_2 : Int) := of_decide_eq_true (by first | (with_reducible assumption) | assumption)
                            have q128 : x29_2 < (l0.length : Int) := of_decide_eq_true (by first | (with_reducible assumption) | assumption)
                            obtain ⟨ad128, e128, hx128_0, hx128_1⟩ := at_T30 HR0.out x29_2 p128 q128
                            cases e128
                            replace hx128_0 := (HB.out.cell (World.block_lt_of_cell? w _ hx128_0)).trans hx128_0
                            replace hx128_1 := (HB.out.cell (World.block_lt_of_cell? w _ hx128_1)).trans hx128_1
                            replace p128 := eq_true p128
                            replace q128 := eq_true q128
                            have p129 : 0 ≤ (x29_2 : Int) := of_decide_eq_true (by first | (with_reducible assumption) | assumption)
                            have q129 : x29_2 < (t123.length : Int) := of_decide_eq_true (by first | (with_reducible assumption) | assumption)
                            obtain ⟨ad129, e129, hx129_0, hx129_1⟩ := at_T29 (Kd.R_reads' HO_3.out).2.2 x29_2 p129 q129
                            obtain rfl : ad127 = ad129 := (by injection e129)
                            replace p129 := eq_true p129
                            replace q129 := eq_true q129
                            have p130 : 0 ≤ (x29_2 : Int) := of_decide_eq_true (by first | (with_reducible assumption) | assumption)
                            have q130 : x29_2 < (l0.length : Int) := of_decide_eq_true (by first | (with_reducible assumption) | assumption)
                            obtain ⟨ad130, e130, hx130_0, hx130_1⟩ := at_T30 HR0.out x29_2 p130 q130
                            obtain rfl : ad128 = ad130 := (by injection e130)
                            replace hx130_0 := (HB.out.cell (World.block_lt_of_cell? w _ hx130_0)).trans hx130_0
                            replace hx130_1 := (HB.out.cell (World.block_lt_of_cell? w _ hx130_1)).trans hx130_1
                            replace p130 := eq_true p130
                            replace q130 := eq_true q130
                            go_wp2
                            repeat (go_quiet (fail); try go_wp2)
                            go_roundg k2
                            case measure => have := HJ7.out; have := HK2.out; omega
                            case rel => exact ⟨(wrap64 (x29_2 + 1)), (by first | rfl | (simp; done) | (simp [*]; done)), H', ⟨by have := HJ7.out; have := HK2.out; omega⟩, ⟨by (with_reducible repeat (first | apply Kd.R_alloc | apply Kd.R_drewN | apply Kd.R_drew)); exact HO_3.out⟩, ⟨by repeat (first | (with_reducible first | exact HB.out | apply below_alloc | apply pw_below_drewN | apply below_drew1) | exact HB.out)⟩⟩
                          · rw [if_neg c21] at H
                            have c21b0 : (((rd_T29 t123 x29_2).f1).toList == ((rd_T30 l0 x29_2).f1).toList) = false := beq_eq_false_iff_ne.mpr c21
                            have c21b1 : (((rd_T29 t123 x29_2).f1).toList != ((rd_T30 l0 x29_2).f1).toList) = true := bne_iff_ne.mpr c21
                            obtain rfl := Option.some.inj H
                            obtain ⟨Ao23, co23, eo23⟩ := Kd.R_slice HO_3.out
                            subst eo23
                            have p127 : 0 ≤ (x29_2 : Int) := of_decide_eq_true (by first | (with_reducible assumption) | assumption)
                            have q127 : x29_2 < (t123.length : Int) := of_decide_eq_true (by first | (with_reducible assumption) | assumption)
                            obtain ⟨ad127, e127, hx127_0, hx127_1⟩ := at_T29 (Kd.R_reads' HO_3.out).2.2 x29_2 p127 q127
                            cases e127
                            replace p127 := eq_true p127
                            replace q127 := eq_true q127
                            have p128 : 0 ≤ (x29_2 : Int) := of_decide_eq_true (by first | (with_reducible assumption) | assumption)
                            have q128 : x29_2 < (l0.length : Int) := of_decide_eq_true (by first | (with_reducible assumption) | assumption)
                            obtain ⟨ad128, e128, hx128_0, hx128_1⟩ := at_T30 HR0.out x29_2 p128 q128
                            cases e128
                            replace hx128_0 := (HB.out.cell (World.block_lt_of_cell? w _ hx128_0)).trans hx128_0
                            replace hx128_1 := (HB.out.cell (World.block_lt_of_cell? w _ hx128_1)).trans hx128_1
                            replace p128 := eq_true p128
                            replace q128 := eq_true q128
                            have p129 : 0 ≤ (x29_2 : Int) := of_decide_eq_true (by first | (with_reducible assumption) | assumption)
                            have q129 : x29_2 < (t123.length : Int) := of_decide_eq_true (by first | (with_reducible assumption) | assumption)
                            obtain ⟨ad129, e129, hx129_0, hx129_1⟩ := at_T29 (Kd.R_reads' HO_3.out).2.2 x29_2 p129 q129
                            obtain rfl : ad127 = ad129 := (by injection e129)
                            replace p129 := eq_true p129
                            replace q129 := eq_true q129
                            have p130 : 0 ≤ (x29_2 : Int) := of_decide_eq_true (by first | (with_reducible assumption) | assumption)
                            have q130 : x29_2 < (l0.length : Int) := of_decide_eq_true (by first | (with_reducible assumption) | assumption)
                            obtain ⟨ad130, e130, hx130_0, hx130_1⟩ := at_T30 HR0.out x29_2 p130 q130
                            obtain rfl : ad128 = ad130 := (by injection e130)
                            replace hx130_0 := (HB.out.cell (World.block_lt_of_cell? w _ hx130_0)).trans hx130_0
                            replace hx130_1 := (HB.out.cell (World.block_lt_of_cell? w _ hx130_1)).trans hx130_1
                            replace p130 := eq_true p130
                            replace q130 := eq_true q130
                            go_wp2
                            repeat (go_quiet (fail); try go_wp2)
                            go_ret
                            exact ⟨by first | rfl | (simp [errW_none, errW_some] <;> rfl) | (simp [*, errW_none, errW_some] <;> rfl), by repeat (first | (with_reducible first | exact HB.out | apply below_alloc | apply pw_below_drewN | apply below_drew1) | exact HB.out)⟩
                        · rw [if_neg c20] at H
                          have c20b0 : (((rd_T29 t123 x29_2).f0).toList == ((rd_T30 l0 x29_2).f0).toList) = false := beq_eq_false_iff_ne.mpr c20
                          have c20b1 : (((rd_T29 t123 x29_2).f0).toList != ((rd_T30 l0 x29_2).f0).toList) = true := bne_iff_ne.mpr c20
                          obtain rfl := Option.some.inj H
                          obtain ⟨Ao24, co24, eo24⟩ := Kd.R_slice HO_3.out
                          subst eo24
                          have p127 : 0 ≤ (x29_2 : Int) := of_decide_eq_true (by first | (with_reducible assumption) | assumption)
                          have q127 : x29_2 < (t123.length : Int) := of_decide_eq_true (by first | (with_reducible assumption) | assumption)
                          obtain ⟨ad127, e127, hx127_0, hx127_1⟩ := at_T29 (Kd.R_reads' HO_3.out).2.2 x29_2 p127 q127
                          cases e127
                          replace p127 := eq_true p127
                          replace q127 := eq_true q127
                          have p128 : 0 ≤ (x29_2 : Int) := of_decide_eq_true (by first | (with_reducible assumption) | assumption)
                          have q128 : x29_2 < (l0.length : Int) := of_decide_eq_true (by first | (with_reducible assumption) | assumption)
                          obtain ⟨ad128, e128, hx128_0, hx128_1⟩ := at_T30 HR0.out x29_2 p128 q128
                          cases e128
                          replace hx128_0 := (HB.out.cell (World.block_lt_of_cell? w _ hx128_0)).trans hx128_0
                          replace hx128_1 := (HB.out.cell (World.block_lt_of_cell? w _ hx128_1)).trans hx128_1
                          replace p128 := eq_true p128
                          replace q128 := eq_true q128
                          go_wp2
                          repeat (go_quiet (fail); try go_wp2)
                          go_ret
                          exact ⟨by first | rfl | (simp [errW_none, errW_some] <;> rfl) | (simp [*, errW_none, errW_some] <;> rfl), by repeat (first | (with_reducible first | exact HB.out | apply below_alloc | apply pw_below_drewN | apply below_drew1) | exact HB.out)⟩
                      · rw [if_neg c19] at H
                        exact absurd H (by simp)
                    · rw [if_neg c18] at H
                      exact absurd H (by simp)
                  · rw [if_neg c17] at H
                    exact absurd H (by simp)
                · rw [if_neg c16] at H
                  have c16b0 : decide (x29_2 < (l0.length : Int)) = false := decide_eq_false c16
                  clear c16
                  obtain ⟨y131, hy131⟩ : ∃ y_ : List (S30), y_ = (([(⟨(⟨#[97]⟩ : ByteArray), (⟨#[98]⟩ : ByteArray)⟩ : S30)] : List (S30))) := ⟨_, rfl⟩
                  replace H : ((impl_MtRule.f k2 y131).bind fun t134 => (some (t134.toList == ([97, 61, 39, 98, 39] : List UInt8)))) = some r := by first | (rw [hy131]; with_reducible exact H) | (have H2_ := (Option.bind_some _ _).symm.trans H; rw [hy131]; with_reducible exact H2_) | (have H2_ := (Option.bind_some _ _).symm.trans H; with_reducible exact H2_) | with_reducible exact H | (rw [hy131]; exact H) | exact H
                  have Ny131 := Aside0.mk hy131
                  clear hy131
                  replace H := Option.bind_eq_some_iff.mp H
                  obtain ⟨t134, A250, H⟩ := H
                  replace H : (some (t134.toList == ([97, 61, 39, 98, 39] : List UInt8))) = some r := H
                  have A25 := Aside0.mk A250
                  clear A250
                  obtain rfl := Option.some.inj H
                  go_wp2_with (first | ((with_reducible refine gate_dst (N := 58) rfl ?_); (try (refine gate_guard (by rfl) ?_; dsimp only)); refine Kd.R_lit k30 _ 30 ?hg (N := 58) ?hd (xs := ([(⟨(⟨#[97]⟩ : ByteArray), (⟨#[98]⟩ : ByteArray)⟩ : S30)] : List (S30))) (inner := [.string (⟨#[97]⟩ : ByteArray), .string (⟨#[98]⟩ : ByteArray)]) (ok := fun _ => True) (okp := fun _ => True) ?hr ?hp (fun _ hk => hk) trivial (Below.refl _ _) (Nat.le_refl _) (by simp) ?_; (case hd => rfl); (case hg => rfl); (case hr => first | (go_simp; done) | (go_simp; rfl)); (case hp => exact (Reps.c2 (show Kd.M k30 _ _ _ (⟨(⟨#[97]⟩ : ByteArray), (⟨#[98]⟩ : ByteArray)⟩ : S30) [.string (⟨#[97]⟩ : ByteArray), .string (⟨#[98]⟩ : ByteArray)] from (k30_mkM _ _ _ (⟨(⟨#[97]⟩ : ByteArray), (⟨#[98]⟩ : ByteArray)⟩ : S30) )) (Reps.none _ _))); intro v132 w26 ho27 hb hg_ hnew_; clear hg_ hnew_; (first | rw [← Ny131.out] at ho27 | (simp only [Int.reduceToNat] at ho27; rw [← Ny131.out] at ho27)); have n0_ := Aside0.mk (Kd.R_below (by (with_reducible repeat (first | apply Kd.R_alloc | apply Kd.R_drewN | apply Kd.R_drew)); exact HO_3.out) hb); have n1_ := Aside0.mk (Kd.R_lower ho27 (below_size (by repeat (first | (with_reducible first | exact HB.out | apply below_alloc | apply pw_below_drewN | apply below_drew1) | exact HB.out)))); have n2_ := Aside0.mk (below_step (by repeat (first | (with_reducible first | exact HB.out | apply below_alloc | apply pw_below_drewN | apply below_drew1) | exact HB.out)) hb); clear HO_3; clear HB; have HO_3 := n0_; have HO133 := n1_; have HB := n2_; clear n0_ n1_ n2_; clear hb ho27; obtain ⟨Ao28, co28, eo28⟩ := Kd.R_slice HO133.out; subst eo28) | (go_at_call 8; (with_reducible refine (impl_MtRule.calls k2 _ _ y131 t134 _ ?side1 ?side2 A25.out).mono ?_); (case side1 => repeat (first | exact (Kd.R_reads' HO133.out).2.2 | (with_reducible refine Kd.C_alloc ?_ _) | (with_reducible refine Kd.C_drewN ?_ _) | (with_reducible refine Kd.C_drew ?_))); (case side2 => exact (Kd.R_reads' HO133.out).2.1); rintro e w29 ⟨rfl, hb⟩; have n0_ := Aside0.mk (Kd.R_below (by (with_reducible repeat (first | apply Kd.R_alloc | apply Kd.R_drewN | apply Kd.R_drew)); exact HO_3.out) hb); have n1_ := Aside0.mk (Kd.R_below (by (with_reducible repeat (first | apply Kd.R_alloc | apply Kd.R_drewN | apply Kd.R_drew)); exact HO133.out) hb); have n2_ := Aside0.mk (below_step (by repeat (first | (with_reducible first | exact HB.out | apply below_alloc | apply pw_below_drewN | apply below_drew1) | exact HB.out)) hb); clear HO_3; clear HO133; clear HB; have HO_3 := n0_; have HO133 := n1_; have HB := n2_; clear n0_ n1_ n2_; (try clear hb); (try clear hb2); (try clear hk); (try clear hi)))
                  repeat (go_quiet (first | ((with_reducible refine gate_dst (N := 58) rfl ?_); (try (refine gate_guard (by rfl) ?_; dsimp only)); refine Kd.R_lit k30 _ 30 ?hg (N := 58) ?hd (xs := ([(⟨(⟨#[97]⟩ : ByteArray), (⟨#[98]⟩ : ByteArray)⟩ : S30)] : List (S30))) (inner := [.string (⟨#[97]⟩ : ByteArray), .string (⟨#[98]⟩ : ByteArray)]) (ok := fun _ => True) (okp := fun _ => True) ?hr ?hp (fun _ hk => hk) trivial (Below.refl _ _) (Nat.le_refl _) (by simp) ?_; (case hd => rfl); (case hg => rfl); (case hr => first | (go_simp; done) | (go_simp; rfl)); (case hp => exact (Reps.c2 (show Kd.M k30 _ _ _ (⟨(⟨#[97]⟩ : ByteArray), (⟨#[98]⟩ : ByteArray)⟩ : S30) [.string (⟨#[97]⟩ : ByteArray), .string (⟨#[98]⟩ : ByteArray)] from (k30_mkM _ _ _ (⟨(⟨#[97]⟩ : ByteArray), (⟨#[98]⟩ : ByteArray)⟩ : S30) )) (Reps.none _ _))); intro v132 w26 ho27 hb hg_ hnew_; clear hg_ hnew_; (first | rw [← Ny131.out] at ho27 | (simp only [Int.reduceToNat] at ho27; rw [← Ny131.out] at ho27)); have n0_ := Aside0.mk (Kd.R_below (by (with_reducible repeat (first | apply Kd.R_alloc | apply Kd.R_drewN | apply Kd.R_drew)); exact HO_3.out) hb); have n1_ := Aside0.mk (Kd.R_lower ho27 (below_size (by repeat (first | (with_reducible first | exact HB.out | apply below_alloc | apply pw_below_drewN | apply below_drew1) | exact HB.out)))); have n2_ := Aside0.mk (below_step (by repeat (first | (with_reducible first | exact HB.out | apply below_alloc | apply pw_below_drewN | apply below_drew1) | exact HB.out)) hb); clear HO_3; clear HB; have HO_3 := n0_; have HO133 := n1_; have HB := n2_; clear n0_ n1_ n2_; clear hb ho27; obtain ⟨Ao28, co28, eo28⟩ := Kd.R_slice HO133.out; subst eo28) | (go_at_call 8; (with_reducible refine (impl_MtRule.calls k2 _ _ y131 t134 _ ?side1 ?side2 A25.out).mono ?_); (case side1 => repeat (first | exact (Kd.R_reads' HO133.out).2.2 | (with_reducible refine Kd.C_alloc ?_ _) | (with_reducible refine Kd.C_drewN ?_ _) | (with_reducible refine Kd.C_drew ?_))); (case side2 => exact (Kd.R_reads' HO133.out).2.1); rintro e w29 ⟨rfl, hb⟩; have n0_ := Aside0.mk (Kd.R_below (by (with_reducible repeat (first | apply Kd.R_alloc | apply Kd.R_drewN | apply Kd.R_drew)); exact HO_3.out) hb); have n1_ := Aside0.mk (Kd.R_below (by (with_reducible repeat (first | apply Kd.R_alloc | apply Kd.R_drewN | apply Kd.R_drew)); exact HO133.out) hb); have n2_ := Aside0.mk (below_step (by repeat (first | (with_reducible first | exact HB.out | apply below_alloc | apply pw_below_drewN | apply below_drew1) | exact HB.out)) hb); clear HO_3; clear HO133; clear HB; have HO_3 := n0_; have HO133 := n1_; have HB := n2_; clear n0_ n1_ n2_; (try clear hb); (try clear hb2); (try clear hk); (try clear hi))); try go_wp2_with (first | ((with_reducible refine gate_dst (N := 58) rfl ?_); (try (refine gate_guard (by rfl) ?_; dsimp only)); refine Kd.R_lit k30 _ 30 ?hg (N := 58) ?hd (xs := ([(⟨(⟨#[97]⟩ : ByteArray), (⟨#[98]⟩ : ByteArray)⟩ : S30)] : List (S30))) (inner := [.string (⟨#[97]⟩ : ByteArray), .string (⟨#[98]⟩ : ByteArray)]) (ok := fun _ => True) (okp := fun _ => True) ?hr ?hp (fun _ hk => hk) trivial (Below.refl _ _) (Nat.le_refl _) (by simp) ?_; (case hd => rfl); (case hg => rfl); (case hr => first | (go_simp; done) | (go_simp; rfl)); (case hp => exact (Reps.c2 (show Kd.M k30 _ _ _ (⟨(⟨#[97]⟩ : ByteArray), (⟨#[98]⟩ : ByteArray)⟩ : S30) [.string (⟨#[97]⟩ : ByteArray), .string (⟨#[98]⟩ : ByteArray)] from (k30_mkM _ _ _ (⟨(⟨#[97]⟩ : ByteArray), (⟨#[98]⟩ : ByteArray)⟩ : S30) )) (Reps.none _ _))); intro v132 w26 ho27 hb hg_ hnew_; clear hg_ hnew_; (first | rw [← Ny131.out] at ho27 | (simp only [Int.reduceToNat] at ho27; rw [← Ny131.out] at ho27)); have n0_ := Aside0.mk (Kd.R_below (by (with_reducible repeat (first | apply Kd.R_alloc | apply Kd.R_drewN | apply Kd.R_drew)); exact HO_3.out) hb); have n1_ := Aside0.mk (Kd.R_lower ho27 (below_size (by repeat (first | (with_reducible first | exact HB.out | apply below_alloc | apply pw_below_drewN | apply below_drew1) | exact HB.out)))); have n2_ := Aside0.mk (below_step (by repeat (first | (with_reducible first | exact HB.out | apply below_alloc | apply pw_below_drewN | apply below_drew1) | exact HB.out)) hb); clear HO_3; clear HB; have HO_3 := n0_; have HO133 := n1_; have HB := n2_; clear n0_ n1_ n2_; clear hb ho27; obtain ⟨Ao28, co28, eo28⟩ := Kd.R_slice HO133.out; subst eo28) | (go_at_call 8; (with_reducible refine (impl_MtRule.calls k2 _ _ y131 t134 _ ?side1 ?side2 A25.out).mono ?_); (case side1 => repeat (first | exact (Kd.R_reads' HO133.out).2.2 | (with_reducible refine Kd.C_alloc ?_ _) | (with_reducible refine Kd.C_drewN ?_ _) | (with_reducible refine Kd.C_drew ?_))); (case side2 => exact (Kd.R_reads' HO133.out).2.1); rintro e w29 ⟨rfl, hb⟩; have n0_ := Aside0.mk (Kd.R_below (by (with_reducible repeat (first | apply Kd.R_alloc | apply Kd.R_drewN | apply Kd.R_drew)); exact HO_3.out) hb); have n1_ := Aside0.mk (Kd.R_below (by (with_reducible repeat (first | apply Kd.R_alloc | apply Kd.R_drewN | apply Kd.R_drew)); exact HO133.out) hb); have n2_ := Aside0.mk (below_step (by repeat (first | (with_reducible first | exact HB.out | apply below_alloc | apply pw_below_drewN | apply below_drew1) | exact HB.out)) hb); clear HO_3; clear HO133; clear HB; have HO_3 := n0_; have HO133 := n1_; have HB := n2_; clear n0_ n1_ n2_; (try clear hb); (try clear hb2); (try clear hk); (try clear hi))))
                  go_ret
                  exact ⟨by first | rfl | (simp [errW_none, errW_some] <;> rfl) | (simp [*, errW_none, errW_some] <;> rfl), by repeat (first | (with_reducible first | exact HB.out | apply below_alloc | apply pw_below_drewN | apply below_drew1) | exact HB.out)⟩
    · replace c5 := Bool.eq_false_iff.mpr c5
      subst c5
      have H1 : (some true) = some r := by rw [if_neg (show ¬ (false = true) by decide)] at H; exact H
      clear H
      have H := H1
      clear H1
      obtain rfl := Option.some.inj H
      go_enter Try.func3, Try.ntmps3
      go_wp2_with (first | (go_at_call 5; (with_reducible refine (laws_zzFits3.calls k _ _ l0 true _ ?side1 ?side2 A2.out).mono ?_); (case side1 => repeat (first | exact HR0.out | (with_reducible refine Kd.C_alloc ?_ _) | (with_reducible refine Kd.C_drewN ?_ _) | (with_reducible refine Kd.C_drew ?_))); (case side2 => exact HC0.out); rintro e w30 ⟨rfl, hb⟩; have n0_ := Aside0.mk (below_step (by repeat (first | (with_reducible first | exact HB.out | apply below_alloc | apply pw_below_drewN | apply below_drew1) | exact HB.out)) hb); clear HB; have HB := n0_; clear n0_; (try clear hb); (try clear hb2); (try clear hk); (try clear hi)) | (go_at_call 6; (with_reducible refine (laws_mtPlain.calls k _ _ l0 false _ ?side1 ?side2 A4.out).mono ?_); (case side1 => repeat (first | exact (Kd.C_below HR0.out HB.out) | (with_reducible refine Kd.C_alloc ?_ _) | (with_reducible refine Kd.C_drewN ?_ _) | (with_reducible refine Kd.C_drew ?_))); (case side2 => exact HC0.out); rintro e w31 ⟨rfl, hb⟩; have n0_ := Aside0.mk (below_step (by repeat (first | (with_reducible first | exact HB.out | apply below_alloc | apply pw_below_drewN | apply below_drew1) | exact HB.out)) hb); clear HB; have HB := n0_; clear n0_; (try clear hb); (try clear hb2); (try clear hk); (try clear hi)))
      repeat (go_quiet (first | (go_at_call 5; (with_reducible refine (laws_zzFits3.calls k _ _ l0 true _ ?side1 ?side2 A2.out).mono ?_); (case side1 => repeat (first | exact HR0.out | (with_reducible refine Kd.C_alloc ?_ _) | (with_reducible refine Kd.C_drewN ?_ _) | (with_reducible refine Kd.C_drew ?_))); (case side2 => exact HC0.out); rintro e w30 ⟨rfl, hb⟩; have n0_ := Aside0.mk (below_step (by repeat (first | (with_reducible first | exact HB.out | apply below_alloc | apply pw_below_drewN | apply below_drew1) | exact HB.out)) hb); clear HB; have HB := n0_; clear n0_; (try clear hb); (try clear hb2); (try clear hk); (try clear hi)) | (go_at_call 6; (with_reducible refine (laws_mtPlain.calls k _ _ l0 false _ ?side1 ?side2 A4.out).mono ?_); (case side1 => repeat (first | exact (Kd.C_below HR0.out HB.out) | (with_reducible refine Kd.C_alloc ?_ _) | (with_reducible refine Kd.C_drewN ?_ _) | (with_reducible refine Kd.C_drew ?_))); (case side2 => exact HC0.out); rintro e w31 ⟨rfl, hb⟩; have n0_ := Aside0.mk (below_step (by repeat (first | (with_reducible first | exact HB.out | apply below_alloc | apply pw_below_drewN | apply below_drew1) | exact HB.out)) hb); clear HB; have HB := n0_; clear n0_; (try clear hb); (try clear hb2); (try clear hk); (try clear hi))); try go_wp2_with (first | (go_at_call 5; (with_reducible refine (laws_zzFits3.calls k _ _ l0 true _ ?side1 ?side2 A2.out).mono ?_); (case side1 => repeat (first | exact HR0.out | (with_reducible refine Kd.C_alloc ?_ _) | (with_reducible refine Kd.C_drewN ?_ _) | (with_reducible refine Kd.C_drew ?_))); (case side2 => exact HC0.out); rintro e w30 ⟨rfl, hb⟩; have n0_ := Aside0.mk (below_step (by repeat (first | (with_reducible first | exact HB.out | apply below_alloc | apply pw_below_drewN | apply below_drew1) | exact HB.out)) hb); clear HB; have HB := n0_; clear n0_; (try clear hb); (try clear hb2); (try clear hk); (try clear hi)) | (go_at_call 6; (with_reducible refine (laws_mtPlain.calls k _ _ l0 false _ ?side1 ?side2 A4.out).mono ?_); (case side1 => repeat (first | exact (Kd.C_below HR0.out HB.out) | (with_reducible refine Kd.C_alloc ?_ _) | (with_reducible refine Kd.C_drewN ?_ _) | (with_reducible refine Kd.C_drew ?_))); (case side2 => exact HC0.out); rintro e w31 ⟨rfl, hb⟩; have n0_ := Aside0.mk (below_step (by repeat (first | (with_reducible first | exact HB.out | apply below_alloc | apply pw_below_drewN | apply below_drew1) | exact HB.out)) hb); clear HB; have HB := n0_; clear n0_; (try clear hb); (try clear hb2); (try clear hk); (try clear hi))))
      go_ret
      exact ⟨by first | rfl | (simp [errW_none, errW_some] <;> rfl) | (simp [*, errW_none, errW_some] <;> rfl), by repeat (first | (with_reducible first | exact HB.out | apply below_alloc | apply pw_below_drewN | apply below_drew1) | exact HB.out)⟩
  · replace c3 := Bool.eq_false_iff.mpr c3
    subst c3
    have H1 : (some true) = some r := by rw [if_neg (show ¬ (false = true) by decide)] at H; exact H
    clear H
    have H := H1
    clear H1
    obtain rfl := Option.some.inj H
    go_enter Try.func3, Try.ntmps3
    go_wp2_with (first | (go_at_call 5; (with_reducible refine (laws_zzFits3.calls k _ _ l0 false _ ?side1 ?side2 A2.out).mono ?_); (case side1 => repeat (first | exact HR0.out | (with_reducible refine Kd.C_alloc ?_ _) | (with_reducible refine Kd.C_drewN ?_ _) | (with_reducible refine Kd.C_drew ?_))); (case side2 => exact HC0.out); rintro e w32 ⟨rfl, hb⟩; have n0_ := Aside0.mk (below_step (by repeat (first | (with_reducible first | exact HB.out | apply below_alloc | apply pw_below_drewN | apply below_drew1) | exact HB.out)) hb); clear HB; have HB := n0_; clear n0_; (try clear hb); (try clear hb2); (try clear hk); (try clear hi)))
    repeat (go_quiet (first | (go_at_call 5; (with_reducible refine (laws_zzFits3.calls k _ _ l0 false _ ?side1 ?side2 A2.out).mono ?_); (case side1 => repeat (first | exact HR0.out | (with_reducible refine Kd.C_alloc ?_ _) | (with_reducible refine Kd.C_drewN ?_ _) | (with_reducible refine Kd.C_drew ?_))); (case side2 => exact HC0.out); rintro e w32 ⟨rfl, hb⟩; have n0_ := Aside0.mk (below_step (by repeat (first | (with_reducible first | exact HB.out | apply below_alloc | apply pw_below_drewN | apply below_drew1) | exact HB.out)) hb); clear HB; have HB := n0_; clear n0_; (try clear hb); (try clear hb2); (try clear hk); (try clear hi))); try go_wp2_with (first | (go_at_call 5; (with_reducible refine (laws_zzFits3.calls k _ _ l0 false _ ?side1 ?side2 A2.out).mono ?_); (case side1 => repeat (first | exact HR0.out | (with_reducible refine Kd.C_alloc ?_ _) | (with_reducible refine Kd.C_drewN ?_ _) | (with_reducible refine Kd.C_drew ?_))); (case side2 => exact HC0.out); rintro e w32 ⟨rfl, hb⟩; have n0_ := Aside0.mk (below_step (by repeat (first | (with_reducible first | exact HB.out | apply below_alloc | apply pw_below_drewN | apply below_drew1) | exact HB.out)) hb); clear HB; have HB := n0_; clear n0_; (try clear hb); (try clear hb2); (try clear hk); (try clear hi))))
    go_ret
    exact ⟨by first | rfl | (simp [errW_none, errW_some] <;> rfl) | (simp [*, errW_none, errW_some] <;> rfl), by repeat (first | (with_reducible first | exact HB.out | apply below_alloc | apply pw_below_drewN | apply below_drew1) | exact HB.out)⟩

/-! ### spec_Joined: function 9 -/
def spec_Joined.l0 : Nat → ByteArray → ByteArray → List ByteArray → Int → Int → Option (ByteArray)
  | 0, _, _, _, _, _ => none
  | k + 1, x1, x5, x8, x9, x10 => if x10 < x9 then (if 0 ≤ x10 then (if x10 < (x8.length : Int) then (if x10 > 0 then (if x5.size + x1.size ≤ 9223372036854775807 then (if (x5 ++ x1).size + (rdOf ByteArray.empty x8 x10).size ≤ 9223372036854775807 then (spec_Joined.l0 k x1 ((x5 ++ x1) ++ (rdOf ByteArray.empty x8 x10)) x8 x9 (wrap64 (x10 + 1))) else (none)) else (none)) else (if x5.size + (rdOf ByteArray.empty x8 x10).size ≤ 9223372036854775807 then (spec_Joined.l0 k x1 (x5 ++ (rdOf ByteArray.empty x8 x10)) x8 x9 (wrap64 (x10 + 1))) else (none))) else (none)) else (none)) else (some x5)
def spec_Joined.f (k : Nat) (l0 : List ByteArray) (a1 : ByteArray) : Option (ByteArray) := spec_Joined.l0 k a1 (⟨#[]⟩ : ByteArray) l0 (l0.length : Int) 0
theorem spec_Joined.mono_l : ∀ k, (∀ y0 y1 y2 y3 y4, LeO (spec_Joined.l0 k y0 y1 y2 y3 y4) (spec_Joined.l0 (k + 1) y0 y1 y2 y3 y4))
  | 0 => fun _ _ _ _ _ r h => by simp [spec_Joined.l0] at h
  | k + 1 => by
    have ih0 := spec_Joined.mono_l k
    · intro y0 y1 y2 y3 y4
      unfold spec_Joined.l0
      repeat' first
      | (with_reducible exact ih0 _ _ _ _ _)
      | (with_reducible exact LeO.refl _)
      | (with_reducible exact LeO.none _)
      | (with_reducible refine LeO.ite ?_ ?_)
      | (with_reducible refine LeO.bind ?_ (fun _ => ?_))
      | exact ih0 _ _ _ _ _
      | exact LeO.none _
      | refine LeO.ite ?_ ?_
      | refine LeO.bind ?_ (fun _ => ?_)
theorem spec_Joined.mono : ∀ a0 a1 k, LeO (spec_Joined.f k a0 a1) (spec_Joined.f (k + 1) a0 a1) := by
  intro a0 a1 k
  have ih0 := spec_Joined.mono_l k
  unfold spec_Joined.f
  repeat' first
      | (with_reducible exact ih0 _ _ _ _ _)
      | (with_reducible exact LeO.refl _)
      | (with_reducible exact LeO.none _)
      | (with_reducible refine LeO.ite ?_ ?_)
      | (with_reducible refine LeO.bind ?_ (fun _ => ?_))
      | exact ih0 _ _ _ _ _
      | exact LeO.none _
      | refine LeO.ite ?_ ?_
      | refine LeO.bind ?_ (fun _ => ?_)
set_option maxHeartbeats 8000000 in
set_option maxRecDepth 100000 in
theorem spec_Joined.calls (k : Nat) (A0 : Option Addr) (c0 : Nat) (l0 : List ByteArray) (a1 : ByteArray) (r : ByteArray) (w : World) (hr0 : Kd.C Kd.string w A0 l0.length l0) (hc0 : l0.length ≤ c0) (h : spec_Joined.f k l0 a1 = some r) :
    Calls Try.prog 9 #[.slice A0 l0.length c0, .string a1] w fun e w' => e = .returned (.string r) ∧ Drawn0 w w' := by
  have HR0 := Aside0.mk hr0
  have HC0 := Aside0.mk hc0
  clear hr0 hc0
  have H : (spec_Joined.l0 k a1 (⟨#[]⟩ : ByteArray) l0 (l0.length : Int) 0) = some r := h
  clear h
  have H' := Aside0.mk H
  clear H
  go_enter Try.func9, Try.ntmps9
  go_wp2
  go_loopg [5, 10] k (fun kq v5 v10 w' => ∃ (x5_1 : ByteArray) (x10_1 : Int), v5 = .string x5_1 ∧ v10 = .int .i64 x10_1 ∧ Aside0 (spec_Joined.l0 kq a1 x5_1 l0 (l0.length : Int) x10_1 = some r) ∧ Aside0 (kq ≤ k) ∧ Drawn0 w w')
  case atStart => exact ⟨((⟨#[]⟩ : ByteArray)), (0), (by first | rfl | (simp; done) | (simp [*]; done)), (by first | rfl | (simp; done) | (simp [*]; done)), H', ⟨Nat.le_refl _⟩, by repeat (first | exact Drawn0.refl _ | apply Drawn0.step)⟩
  case round =>
    clear H'
    try clear p2
    obtain ⟨x5_1, x10_1, rfl, rfl, HA, HK1, ⟨m1, rfl⟩⟩ := hrel
    cases gk with
    | zero => exact absurd HA.out (by simp [spec_Joined.l0])
    | succ k1 =>
      have H := HA.out
      clear HA
      simp only [spec_Joined.l0] at H
      by_cases c3 : x10_1 < (l0.length : Int)
      · rw [if_pos c3] at H
        have c3b0 : decide (x10_1 < (l0.length : Int)) = true := decide_eq_true c3
        clear c3
        by_cases c4 : 0 ≤ x10_1
        · rw [if_pos c4] at H
          have c4b0 : decide (0 ≤ x10_1) = true := decide_eq_true c4
          clear c4
          by_cases c5 : x10_1 < (l0.length : Int)
          · rw [if_pos c5] at H
            have c5b0 : decide (x10_1 < (l0.length : Int)) = true := decide_eq_true c5
            clear c5
            by_cases c6 : x10_1 > 0
            · rw [if_pos c6] at H
              have c6b0 : decide (0 < x10_1) = true := decide_eq_true c6
              clear c6
              by_cases c7 : x5_1.size + a1.size ≤ 9223372036854775807
              · rw [if_pos c7] at H
                have c7b0 := eq_true c7
                have c7b1 : decide (x5_1.size + a1.size ≤ 9223372036854775807) = true := decide_eq_true c7
                try have c7b2 : (9223372036854775807 < x5_1.size + a1.size) = False := eq_false (Nat.not_lt.2 c7)
                try (have c7b3 := c7b2; simp only [ByteArray.size_append] at c7b3)
                try (have c7b4 := c7b3; simp only [show ∀ c : UInt8, (ByteArray.mk #[c]).size = 1 from fun _ => rfl] at c7b4)
                by_cases c8 : (x5_1 ++ a1).size + (rdOf ByteArray.empty l0 x10_1).size ≤ 9223372036854775807
                · rw [if_pos c8] at H
                  have c8b0 := eq_true c8
                  have c8b1 : decide ((x5_1 ++ a1).size + (rdOf ByteArray.empty l0 x10_1).size ≤ 9223372036854775807) = true := decide_eq_true c8
                  try have c8b2 : (9223372036854775807 < (x5_1 ++ a1).size + (rdOf ByteArray.empty l0 x10_1).size) = False := eq_false (Nat.not_lt.2 c8)
                  try (have c8b3 := c8b2; simp only [ByteArray.size_append] at c8b3)
                  try (have c8b4 := c8b3; simp only [show ∀ c : UInt8, (ByteArray.mk #[c]).size = 1 from fun _ => rfl] at c8b4)
                  have H' := Aside0.mk H
                  clear H
                  have p135 : 0 ≤ (x10_1 : Int) := of_decide_eq_true (by first | (with_reducible assumption) | assumption)
                  have q135 : x10_1 < (l0.length : Int) := of_decide_eq_true (by first | (with_reducible assumption) | assumption)
                  obtain ⟨ad135, e135, hx135_0⟩ := Kd.at_string HR0.out x10_1 p135 q135
                  cases e135
                  replace p135 := eq_true p135
                  replace q135 := eq_true q135
                  go_wp2
                  go_roundg k1
                  case measure => have := HK1.out; omega
                  case rel => exact ⟨((x5_1 ++ a1) ++ (rdOf ByteArray.empty l0 x10_1)), (wrap64 (x10_1 + 1)), (by first | rfl | (simp; done) | (simp [*]; done)), (by first | rfl | (simp; done) | (simp [*]; done)), H', ⟨by have := HK1.out; omega⟩, by repeat (first | exact Drawn0.refl _ | apply Drawn0.step)⟩
                · rw [if_neg c8] at H
                  exact absurd H (by simp)
              · rw [if_neg c7] at H
                exact absurd H (by simp)
            · rw [if_neg c6] at H
              have c6b0 : decide (0 < x10_1) = false := decide_eq_false c6
              clear c6
              by_cases c9 : x5_1.size + (rdOf ByteArray.empty l0 x10_1).size ≤ 9223372036854775807
              · rw [if_pos c9] at H
                have c9b0 := eq_true c9
                have c9b1 : decide (x5_1.size + (rdOf ByteArray.empty l0 x10_1).size ≤ 9223372036854775807) = true := decide_eq_true c9
                try have c9b2 : (9223372036854775807 < x5_1.size + (rdOf ByteArray.empty l0 x10_1).size) = False := eq_false (Nat.not_lt.2 c9)
                try (have c9b3 := c9b2; simp only [ByteArray.size_append] at c9b3)
                try (have c9b4 := c9b3; simp only [show ∀ c : UInt8, (ByteArray.mk #[c]).size = 1 from fun _ => rfl] at c9b4)
                have H' := Aside0.mk H
                clear H
                have p135 : 0 ≤ (x10_1 : Int) := of_decide_eq_true (by first | (with_reducible assumption) | assumption)
                have q135 : x10_1 < (l0.length : Int) := of_decide_eq_true (by first | (with_reducible assumption) | assumption)
                obtain ⟨ad135, e135, hx135_0⟩ := Kd.at_string HR0.out x10_1 p135 q135
                cases e135
                replace p135 := eq_true p135
                replace q135 := eq_true q135
                go_wp2
                go_roundg k1
                case measure => have := HK1.out; omega
                case rel => exact ⟨(x5_1 ++ (rdOf ByteArray.empty l0 x10_1)), (wrap64 (x10_1 + 1)), (by first | rfl | (simp; done) | (simp [*]; done)), (by first | rfl | (simp; done) | (simp [*]; done)), H', ⟨by have := HK1.out; omega⟩, by repeat (first | exact Drawn0.refl _ | apply Drawn0.step)⟩
              · rw [if_neg c9] at H
                exact absurd H (by simp)
          · rw [if_neg c5] at H
            exact absurd H (by simp)
        · rw [if_neg c4] at H
          exact absurd H (by simp)
      · rw [if_neg c3] at H
        have c3b0 : decide (x10_1 < (l0.length : Int)) = false := decide_eq_false c3
        clear c3
        obtain rfl := Option.some.inj H
        go_wp2
        go_ret
        exact ⟨by first | rfl | (simp; done) | (simp [*]; done), by repeat (first | exact Drawn0.refl _ | apply Drawn0.step)⟩

end Go.Proofs.Ytoldgnmgjpjapaa.Q
