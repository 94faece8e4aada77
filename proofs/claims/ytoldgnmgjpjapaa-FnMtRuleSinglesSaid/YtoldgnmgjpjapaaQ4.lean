-- Written by a program of this session out of the translation; Lean checks it.
import Derived.Test.YtoldgnmgjpjapaaQ0
import Derived.Test.YtoldgnmgjpjapaaMt
import Derived.Test.YtoldgnmgjpjapaaQ1
import Derived.Test.YtoldgnmgjpjapaaQ3
namespace Go.Proofs.Ytoldgnmgjpjapaa.Q
open Go.RowKit Go.Proofs.Ytoldgnmgjpjapaa.Mt Go.Proofs.YtoldgnmgjpjapaaW.PrintWords Go.Proofs.YtoldgnmgjpjapaaW.PrintLast Go.Proofs.YtoldgnmgjpjapaaW.PrintMore
attribute [local go_sem] max2_int min2_int max_two min_two max_three min_three max_four min_four   -- for this text's walks alone
set_option linter.unusedVariables false
set_option linter.unusedSimpArgs false

/-! ### laws_FnMtRuleSingles: function 4 -/
mutual
def laws_FnMtRuleSingles.j0 : Nat → List (S30) → Bool → Option (Bool)
  | 0, _, _ => none
  | k + 1, x0, x18 => if x18 = true then (some true) else (laws_FnMtRuleSingles.l0 k x0 ([] : List ByteArray) (-1) x0 (x0.length : Int) 0)
def laws_FnMtRuleSingles.l0 : Nat → List (S30) → List ByteArray → Int → List (S30) → Int → Int → Option (Bool)
  | 0, _, _, _, _, _, _ => none
  | k + 1, x0, x3, x4, x19, x20, x21 => if x21 < x20 then (if 0 ≤ x21 then (if x21 < (x19.length : Int) then ((impl_MtRule.f k (([(⟨(rd_T30 x19 x21).f0, (rd_T30 x19 x21).f1⟩ : S30)] : List (S30)))).bind fun t143 => (if x3.length < 8796093022208 then (laws_FnMtRuleSingles.l0 k x0 (x3 ++ [t143]) (wrap64 (x4 + (wrap64 ((wrap64 ((((rd_T30 x19 x21).f0).size : Int) + (((rd_T30 x19 x21).f1).size : Int))) + 4)))) x19 x20 (wrap64 (x21 + 1))) else (none))) else (none)) else (none)) else ((impl_MtRule.f k x0).bind fun t147 => ((spec_Joined.f k x3 (⟨#[44]⟩ : ByteArray)).bind fun t148 => (if t147.toList = t148.toList then (some ((t147.size : Int) == x4)) else (some false))))
end
def laws_FnMtRuleSingles.f (k : Nat) (l0 : List (S30)) : Option (Bool) := (laws_zzFits3.f k l0).bind fun t136 => (if t136 = true then (if (l0.length : Int) = 0 then (laws_FnMtRuleSingles.j0 k l0 true) else ((laws_mtPlain.f k l0).bind fun t137 => (laws_FnMtRuleSingles.j0 k l0 (!t137)))) else (some true))
theorem laws_FnMtRuleSingles.mono_l : ∀ k, (∀ y0 y1, LeO (laws_FnMtRuleSingles.j0 k y0 y1) (laws_FnMtRuleSingles.j0 (k + 1) y0 y1)) ∧ (∀ y0 y1 y2 y3 y4 y5, LeO (laws_FnMtRuleSingles.l0 k y0 y1 y2 y3 y4 y5) (laws_FnMtRuleSingles.l0 (k + 1) y0 y1 y2 y3 y4 y5))
  | 0 => ⟨fun _ _ r h => by simp [laws_FnMtRuleSingles.j0] at h, fun _ _ _ _ _ _ r h => by simp [laws_FnMtRuleSingles.l0] at h⟩
  | k + 1 => by
    obtain ⟨ih0, ih1⟩ := laws_FnMtRuleSingles.mono_l k
    refine ⟨?_, ?_⟩
    · intro y0 y1
      unfold laws_FnMtRuleSingles.j0
      repeat' first
      | (with_reducible exact ih0 _ _)
      | (with_reducible exact ih1 _ _ _ _ _ _)
      | (with_reducible exact impl_MtRule.mono _ _)
      | (with_reducible exact laws_mtPlain.mono _ _)
      | (with_reducible exact laws_zzFits3.mono _ _)
      | (with_reducible exact spec_Joined.mono _ _ _)
      | (with_reducible exact LeO.refl _)
      | (with_reducible exact LeO.none _)
      | (with_reducible refine LeO.ite ?_ ?_)
      | (with_reducible refine LeO.bind ?_ (fun _ => ?_))
      | exact ih0 _ _
      | exact ih1 _ _ _ _ _ _
      | exact impl_MtRule.mono _ _
      | exact laws_mtPlain.mono _ _
      | exact laws_zzFits3.mono _ _
      | exact spec_Joined.mono _ _ _
      | exact LeO.none _
      | refine LeO.ite ?_ ?_
      | refine LeO.bind ?_ (fun _ => ?_)
    · intro y0 y1 y2 y3 y4 y5
      unfold laws_FnMtRuleSingles.l0
      repeat' first
      | (with_reducible exact ih0 _ _)
      | (with_reducible exact ih1 _ _ _ _ _ _)
      | (with_reducible exact impl_MtRule.mono _ _)
      | (with_reducible exact laws_mtPlain.mono _ _)
      | (with_reducible exact laws_zzFits3.mono _ _)
      | (with_reducible exact spec_Joined.mono _ _ _)
      | (with_reducible exact LeO.refl _)
      | (with_reducible exact LeO.none _)
      | (with_reducible refine LeO.ite ?_ ?_)
      | (with_reducible refine LeO.bind ?_ (fun _ => ?_))
      | exact ih0 _ _
      | exact ih1 _ _ _ _ _ _
      | exact impl_MtRule.mono _ _
      | exact laws_mtPlain.mono _ _
      | exact laws_zzFits3.mono _ _
      | exact spec_Joined.mono _ _ _
      | exact LeO.none _
      | refine LeO.ite ?_ ?_
      | refine LeO.bind ?_ (fun _ => ?_)
theorem laws_FnMtRuleSingles.mono : ∀ a0 k, LeO (laws_FnMtRuleSingles.f k a0) (laws_FnMtRuleSingles.f (k + 1) a0) := by
  intro a0 k
  obtain ⟨ih0, ih1⟩ := laws_FnMtRuleSingles.mono_l k
  unfold laws_FnMtRuleSingles.f
  repeat' first
      | (with_reducible exact ih0 _ _)
      | (with_reducible exact ih1 _ _ _ _ _ _)
      | (with_reducible exact impl_MtRule.mono _ _)
      | (with_reducible exact laws_mtPlain.mono _ _)
      | (with_reducible exact laws_zzFits3.mono _ _)
      | (with_reducible exact spec_Joined.mono _ _ _)
      | (with_reducible exact LeO.refl _)
      | (with_reducible exact LeO.none _)
      | (with_reducible refine LeO.ite ?_ ?_)
      | (with_reducible refine LeO.bind ?_ (fun _ => ?_))
      | exact ih0 _ _
      | exact ih1 _ _ _ _ _ _
      | exact impl_MtRule.mono _ _
      | exact laws_mtPlain.mono _ _
      | exact laws_zzFits3.mono _ _
      | exact spec_Joined.mono _ _ _
      | exact LeO.none _
      | refine LeO.ite ?_ ?_
      | refine LeO.bind ?_ (fun _ => ?_)
set_option maxHeartbeats 8000000 in
set_option maxRecDepth 100000 in
theorem laws_FnMtRuleSingles.calls (k : Nat) (A0 : Option Addr) (c0 : Nat) (l0 : List (S30)) (r : Bool) (w : World) (hr0 : Kd.C k30 w A0 l0.length l0) (hc0 : l0.length ≤ c0) (h : laws_FnMtRuleSingles.f k l0 = some r) :
    Calls Try.prog 4 #[.slice A0 l0.length c0] w fun e w' => e = .returned (.bool r) ∧ Below w.heap.size w w' := by
  have hu30 := Try.underlying30
  have HR0 := Aside0.mk hr0
  have HC0 := Aside0.mk hc0
  clear hr0 hc0
  have HB := Aside0.mk (Below.refl w.heap.size w)
  have H : ((laws_zzFits3.f k l0).bind fun t136 => (if t136 = true then (if (l0.length : Int) = 0 then (laws_FnMtRuleSingles.j0 k l0 true) else ((laws_mtPlain.f k l0).bind fun t137 => (laws_FnMtRuleSingles.j0 k l0 (!t137)))) else (some true))) = some r := h
  clear h
  replace H := Option.bind_eq_some_iff.mp H
  obtain ⟨t136, A20, H⟩ := H
  replace H : (if t136 = true then (if (l0.length : Int) = 0 then (laws_FnMtRuleSingles.j0 k l0 true) else ((laws_mtPlain.f k l0).bind fun t137 => (laws_FnMtRuleSingles.j0 k l0 (!t137)))) else (some true)) = some r := H
  have A2 := Aside0.mk A20
  clear A20
  by_cases c3 : t136 = true
  · subst c3
    have H1 : (if (l0.length : Int) = 0 then (laws_FnMtRuleSingles.j0 k l0 true) else ((laws_mtPlain.f k l0).bind fun t137 => (laws_FnMtRuleSingles.j0 k l0 (!t137)))) = some r := by rw [if_pos rfl] at H; exact H
    clear H
    have H := H1
    clear H1
    have HC4 := Aside0.mk H
    clear H
    go_enter Try.func4, Try.ntmps4
    go_upto_region 3 with (first | ((with_reducible refine gate_callee (f := 5) rfl ?_); refine goesL_ (some 9) rfl rfl Try.func5 (by kernel_rfl) rfl #[.slice A0 l0.length c0] rfl (by (try simp only [List.map_toArray, List.map_cons, List.map_nil]); first | done | rfl | (simp only [List.length_drop, List.length_take]; rfl)) ?_; (with_reducible refine (laws_zzFits3.calls k _ _ l0 true _ ?side1 ?side2 A2.out).mono ?_); (case side1 => repeat (first | exact HR0.out | (with_reducible refine Kd.C_alloc ?_ _) | (with_reducible refine Kd.C_drewN ?_ _) | (with_reducible refine Kd.C_drew ?_))); (case side2 => exact HC0.out); rintro e w5 ⟨rfl, hb⟩; refine ⟨_, rfl, ?_⟩; have n0_ := Aside0.mk (below_step (by repeat (first | (with_reducible first | exact HB.out | apply below_alloc | apply pw_below_drewN | apply below_drew1) | exact HB.out)) hb); clear HB; have HB := n0_; clear n0_; (try clear hb); (try clear hb2); (try clear hk); (try clear hi)))
    (try simp only [Act.put, List.setIfInBounds_toArray, List.set_cons_zero, List.set_cons_succ])
    go_cut [18] (fun v18 wc => ∃ (kq : Nat) (x18_3 : Bool), v18 = .bool x18_3 ∧ Aside0 (laws_FnMtRuleSingles.j0 kq l0 x18_3 = some r) ∧ Aside0 (kq ≤ k) ∧ Aside0 (Below w.heap.size w wc))
    case first =>
      have H := HC4.out
      clear HC4
      by_cases c6 : (l0.length : Int) = 0
      · rw [if_pos c6] at H
        have c6b0 : ((l0.length : Int) == 0) = true := beq_iff_eq.mpr c6
        have c6b1 : ((l0.length : Int) != 0) = false := bne_eq_false_iff_eq.mpr c6
        clear c6
        (first | rw [c6b0] | (simp only [i64_w, i32_w]; rw [c6b0]) | skip)
        have H' := Aside0.mk H
        clear H
        go_wp2
        go_meet
        case rel => exact ⟨_, (true), (by first | rfl | (simp; done) | (simp [*]; done)), H', ⟨by first | omega | exact Nat.le_refl _⟩, ⟨by repeat (first | (with_reducible first | exact HB.out | apply below_alloc | apply pw_below_drewN | apply below_drew1) | exact HB.out)⟩⟩
      · rw [if_neg c6] at H
        have c6b0 : ((l0.length : Int) == 0) = false := beq_eq_false_iff_ne.mpr c6
        have c6b1 : ((l0.length : Int) != 0) = true := bne_iff_ne.mpr c6
        have c6b2 : ¬ (l0 = []) := fun h_ => c6 (by rw [h_]; rfl)
        (first | rw [c6b0] | (simp only [i64_w, i32_w]; rw [c6b0]) | skip)
        replace H := Option.bind_eq_some_iff.mp H
        obtain ⟨t137, A70, H⟩ := H
        replace H : (laws_FnMtRuleSingles.j0 k l0 (!t137)) = some r := H
        have A7 := Aside0.mk A70
        clear A70
        have H' := Aside0.mk H
        clear H
        go_wp2_with (first | (go_at_call 6; (with_reducible refine (laws_mtPlain.calls k _ _ l0 t137 _ ?side1 ?side2 A7.out).mono ?_); (case side1 => repeat (first | exact (Kd.C_below HR0.out HB.out) | (with_reducible refine Kd.C_alloc ?_ _) | (with_reducible refine Kd.C_drewN ?_ _) | (with_reducible refine Kd.C_drew ?_))); (case side2 => exact HC0.out); rintro e w8 ⟨rfl, hb⟩; have n0_ := Aside0.mk (below_step (by repeat (first | (with_reducible first | exact HB.out | apply below_alloc | apply pw_below_drewN | apply below_drew1) | exact HB.out)) hb); clear HB; have HB := n0_; clear n0_; (try clear hb); (try clear hb2); (try clear hk); (try clear hi)))
        go_meet
        case rel => exact ⟨_, (!t137), (by first | rfl | (simp; done) | (simp [*]; done)), H', ⟨by first | omega | exact Nat.le_refl _⟩, ⟨by repeat (first | (with_reducible first | exact HB.out | apply below_alloc | apply pw_below_drewN | apply below_drew1) | exact HB.out)⟩⟩
    case rest =>
      clear HC4
      try clear p2
      try clear c3
      try clear c4
      try clear c5
      try clear c6
      try clear c6b0
      try clear c6b1
      try clear c6b2
      obtain ⟨kq, x18_3, rfl, HA, HJ3, HB⟩ := hcut
      cases kq with
      | zero => exact absurd HA.out (by simp [laws_FnMtRuleSingles.j0])
      | succ kj3 =>
        have H := HA.out
        clear HA
        simp only [laws_FnMtRuleSingles.j0] at H
        by_cases c9 : x18_3 = true
        · subst c9
          have H1 : (some true) = some r := by rw [if_pos rfl] at H; exact H
          clear H
          have H := H1
          clear H1
          obtain rfl := Option.some.inj H
          go_wp2
          go_ret
          exact ⟨by first | rfl | (simp [errW_none, errW_some] <;> rfl) | (simp [*, errW_none, errW_some] <;> rfl), by repeat (first | (with_reducible first | exact HB.out | apply below_alloc | apply pw_below_drewN | apply below_drew1) | exact HB.out)⟩
        · replace c9 := Bool.eq_false_iff.mpr c9
          subst c9
          have H1 : (laws_FnMtRuleSingles.l0 kj3 l0 ([] : List ByteArray) (-1) l0 (l0.length : Int) 0) = some r := by rw [if_neg (show ¬ (false = true) by decide)] at H; exact H
          clear H
          have H := H1
          clear H1
          have H' := Aside0.mk H
          clear H
          go_wp2
          go_loopg [3, 4, 21] kj3 (fun kq v3 v4 v21 w' => ∃ (x3_2 : List ByteArray) (x4_2 : Int) (x21_2 : Int), v4 = .int .i64 x4_2 ∧ v21 = .int .i64 x21_2 ∧ Aside0 (laws_FnMtRuleSingles.l0 kq l0 x3_2 x4_2 l0 (l0.length : Int) x21_2 = some r) ∧ Aside0 (kq ≤ kj3) ∧ Aside0 (Kd.R Kd.string 9 w' w.heap.size (fun _ => True) v3 x3_2) ∧ Aside0 (Below w.heap.size w w'))
          case atStart => exact ⟨(([] : List ByteArray)), ((-1)), (0), (by first | rfl | (simp; done) | (simp [*]; done)), (by first | rfl | (simp; done) | (simp [*]; done)), H', ⟨Nat.le_refl _⟩, ⟨by first | exact Kd.R_nil _ _ _ _ _ | exact Kd.N_nil _ _ _ _ _ | exact Kd.V_nil _ _ _ _ _ | exact Kd.Q_nil _ _ _ _ _ | exact Kd.S_nil _ _ _ _ _⟩, ⟨by repeat (first | (with_reducible first | exact HB.out | apply below_alloc | apply pw_below_drewN | apply below_drew1) | exact HB.out)⟩⟩
          case round =>
            clear H'
            try clear p2
            try clear c3
            try clear c4
            try clear c5
            try clear c6
            try clear c6b0
            try clear c6b1
            try clear c6b2
            try clear c9
            try clear p2
            obtain ⟨x3_2, x4_2, x21_2, rfl, rfl, HA, HK2, HO_3, HB⟩ := hrel
            cases gk with
            | zero => exact absurd HA.out (by simp [laws_FnMtRuleSingles.l0])
            | succ k2 =>
              have H := HA.out
              clear HA
              simp only [laws_FnMtRuleSingles.l0] at H
              by_cases c10 : x21_2 < (l0.length : Int)
              · rw [if_pos c10] at H
                have c10b0 : decide (x21_2 < (l0.length : Int)) = true := decide_eq_true c10
                clear c10
                by_cases c11 : 0 ≤ x21_2
                · rw [if_pos c11] at H
                  have c11b0 : decide (0 ≤ x21_2) = true := decide_eq_true c11
                  clear c11
                  by_cases c12 : x21_2 < (l0.length : Int)
                  · rw [if_pos c12] at H
                    have c12b0 : decide (x21_2 < (l0.length : Int)) = true := decide_eq_true c12
                    clear c12
                    obtain ⟨y140, hy140⟩ : ∃ y_ : List (S30), y_ = (([(⟨(rd_T30 l0 x21_2).f0, (rd_T30 l0 x21_2).f1⟩ : S30)] : List (S30))) := ⟨_, rfl⟩
                    replace H : ((impl_MtRule.f k2 y140).bind fun t143 => (if x3_2.length < 8796093022208 then (laws_FnMtRuleSingles.l0 k2 l0 (x3_2 ++ [t143]) (wrap64 (x4_2 + (wrap64 ((wrap64 ((((rd_T30 l0 x21_2).f0).size : Int) + (((rd_T30 l0 x21_2).f1).size : Int))) + 4)))) l0 (l0.length : Int) (wrap64 (x21_2 + 1))) else (none))) = some r := by first | (rw [hy140]; with_reducible exact H) | (have H2_ := (Option.bind_some _ _).symm.trans H; rw [hy140]; with_reducible exact H2_) | (have H2_ := (Option.bind_some _ _).symm.trans H; with_reducible exact H2_) | with_reducible exact H | (rw [hy140]; exact H) | exact H
                    have Ny140 := Aside0.mk hy140
                    clear hy140
                    replace H := Option.bind_eq_some_iff.mp H
                    obtain ⟨t143, A130, H⟩ := H
                    replace H : (if x3_2.length < 8796093022208 then (laws_FnMtRuleSingles.l0 k2 l0 (x3_2 ++ [t143]) (wrap64 (x4_2 + (wrap64 ((wrap64 ((((rd_T30 l0 x21_2).f0).size : Int) + (((rd_T30 l0 x21_2).f1).size : Int))) + 4)))) l0 (l0.length : Int) (wrap64 (x21_2 + 1))) else (none)) = some r := H
                    have A13 := Aside0.mk A130
                    clear A130
                    by_cases c14 : x3_2.length < 8796093022208
                    · rw [if_pos c14] at H
                      have LMc14 := Aside0.mk c14
                      clear c14
                      obtain ⟨y144, hy144⟩ : ∃ y_ : List ByteArray, y_ = (x3_2 ++ [t143]) := ⟨_, rfl⟩
                      replace H : (laws_FnMtRuleSingles.l0 k2 l0 y144 (wrap64 (x4_2 + (wrap64 ((wrap64 ((((rd_T30 l0 x21_2).f0).size : Int) + (((rd_T30 l0 x21_2).f1).size : Int))) + 4)))) l0 (l0.length : Int) (wrap64 (x21_2 + 1))) = some r := by first | (rw [hy144]; with_reducible exact H) | (have H2_ := (Option.bind_some _ _).symm.trans H; rw [hy144]; with_reducible exact H2_) | (have H2_ := (Option.bind_some _ _).symm.trans H; with_reducible exact H2_) | with_reducible exact H | (rw [hy144]; exact H) | exact H
                      have Ny144 := Aside0.mk hy144
                      clear hy144
                      have H' := Aside0.mk H
                      clear H
                      have p138 : 0 ≤ (x21_2 : Int) := of_decide_eq_true (by first | (with_reducible assumption) | assumption)
                      have q138 : x21_2 < (l0.length : Int) := of_decide_eq_true (by first | (with_reducible assumption) | assumption)
                      obtain ⟨ad138, e138, hx138_0, hx138_1⟩ := at_T30 HR0.out x21_2 p138 q138
                      cases e138
                      replace hx138_0 := (HB.out.cell (World.block_lt_of_cell? w _ hx138_0)).trans hx138_0
                      replace hx138_1 := (HB.out.cell (World.block_lt_of_cell? w _ hx138_1)).trans hx138_1
                      replace p138 := eq_true p138
                      replace q138 := eq_true q138
                      go_wp2_with (first | ((with_reducible refine gate_dst (N := 6) rfl ?_); (try (refine gate_guard (by rfl) ?_; dsimp only)); refine box_event ?hg (N := 6) ?hd (cs := #[.string (⟨#[]⟩ : ByteArray), .string (⟨#[]⟩ : ByteArray)]) (t := 30) ?hr ?_; (case hd => rfl); (case hg => rfl); (case hr => first | (go_simp; done) | (go_simp; rfl)); intro gb139 hg w15 hbox hb; have n0_ := Aside0.mk (Kd.R_below (by (with_reducible repeat (first | apply Kd.R_alloc | apply Kd.R_drewN | apply Kd.R_drew)); exact HO_3.out) hb); have n1_ := Aside0.mk (below_step (by repeat (first | (with_reducible first | exact HB.out | apply below_alloc | apply pw_below_drewN | apply below_drew1) | exact HB.out)) hb); have n2_ := Aside0.mk (hbox); have n3_ := Aside0.mk ((by rw [hg]; exact (below_size (by repeat (first | (with_reducible first | exact HB.out | apply below_alloc | apply pw_below_drewN | apply below_drew1) | exact HB.out))) : w.heap.size ≤ gb139)); have n4_ := Aside0.mk ((by rw [hg]; exact (below_size (by repeat (first | (with_reducible first | exact HB.out | apply below_alloc | apply pw_below_drewN | apply below_drew1) | exact HB.out))) : w.heap.size ≤ gb139)); clear HO_3; clear HB; have HO_3 := n0_; have HB := n1_; have BK139 := n2_; have GW139 := n3_; have GE139 := n4_; clear n0_ n1_ n2_ n3_ n4_; clear hb hbox hg; have hcz16_0 : w15.cell? ⟨gb139, 0, none⟩ = some (.string (⟨#[]⟩ : ByteArray)) := (blk_cell BK139.out 0).trans rfl; have hcz16_1 : w15.cell? ⟨gb139, 1, none⟩ = some (.string (⟨#[]⟩ : ByteArray)) := (blk_cell BK139.out 1).trans rfl; have hfz16_0 := blk_frozen BK139.out 0; have hfz16_1 := blk_frozen BK139.out 1) | ((with_reducible refine gate_dst (N := 27) rfl ?_); (try (refine gate_guard (by rfl) ?_; dsimp only)); refine Kd.R_lit k30 _ 30 ?hg (N := 27) ?hd (xs := ([(⟨(rd_T30 l0 x21_2).f0, (rd_T30 l0 x21_2).f1⟩ : S30)] : List (S30))) (inner := [.string ((rd_T30 l0 x21_2).f0), .string ((rd_T30 l0 x21_2).f1)]) (ok := fun _ => True) (okp := fun _ => True) ?hr ?hp (fun _ hk => hk) trivial (Below.refl _ _) (Nat.le_refl _) (by simp) ?_; (case hd => rfl); (case hg => rfl); (case hr => first | (go_simp; done) | (go_simp; rfl)); (case hp => exact (Reps.c2 (show Kd.M k30 _ _ _ (⟨(rd_T30 l0 x21_2).f0, (rd_T30 l0 x21_2).f1⟩ : S30) [.string ((rd_T30 l0 x21_2).f0), .string ((rd_T30 l0 x21_2).f1)] from (k30_mkM _ _ _ (⟨(rd_T30 l0 x21_2).f0, (rd_T30 l0 x21_2).f1⟩ : S30) )) (Reps.none _ _))); intro v141 w17 ho18 hb hg_ hnew_; clear hg_ hnew_; (first | rw [← Ny140.out] at ho18 | (simp only [Int.reduceToNat] at ho18; rw [← Ny140.out] at ho18)); have n0_ := Aside0.mk (Kd.R_below (by (with_reducible repeat (first | apply Kd.R_alloc | apply Kd.R_drewN | apply Kd.R_drew)); exact (Kd.R_mono (Kd.R_far (p := ⟨gb139, 1, none⟩) (Kd.R_far (p := ⟨gb139, 0, none⟩) (Kd.R_types HO_3.out BK139.out (by decide)) (fun _ hk => hk.2) (.string ((rd_T30 l0 x21_2).f0))) (fun _ hk => hk.2) (.string ((rd_T30 l0 x21_2).f1))) (fun _ h_ => h_.1))) hb); have n1_ := Aside0.mk (Kd.R_lower (Kd.R_newB ho18 (g := gb139) (o := .cells #[.string ((rd_T30 l0 x21_2).f0), .string ((rd_T30 l0 x21_2).f1)] 30 (0, 0)) (by (with_reducible repeat (first | refine blk_drewN ?_ _ | refine blk_drew ?_ | refine blk_alloc ?_ _)); refine blk_put (cs := #[.string ((rd_T30 l0 x21_2).f0), .string (⟨#[]⟩ : ByteArray)]) ?_ 1 _ rfl; (with_reducible repeat (first | refine blk_drewN ?_ _ | refine blk_drew ?_ | refine blk_alloc ?_ _)); refine blk_put (cs := #[.string (⟨#[]⟩ : ByteArray), .string (⟨#[]⟩ : ByteArray)]) ?_ 0 _ rfl; (with_reducible repeat (first | refine blk_drewN ?_ _ | refine blk_drew ?_ | refine blk_alloc ?_ _)); exact BK139.out)) (below_size (by repeat (first | (with_reducible first | exact HB.out | apply below_alloc | apply pw_below_drewN | apply below_drew1 | refine below_set ?_ GE139.out) | exact HB.out)))); have n2_ := Aside0.mk (blk_below (g := gb139) (o := .cells #[.string ((rd_T30 l0 x21_2).f0), .string ((rd_T30 l0 x21_2).f1)] 30 (0, 0)) (by (with_reducible repeat (first | refine blk_drewN ?_ _ | refine blk_drew ?_ | refine blk_alloc ?_ _)); refine blk_put (cs := #[.string ((rd_T30 l0 x21_2).f0), .string (⟨#[]⟩ : ByteArray)]) ?_ 1 _ rfl; (with_reducible repeat (first | refine blk_drewN ?_ _ | refine blk_drew ?_ | refine blk_alloc ?_ _)); refine blk_put (cs := #[.string (⟨#[]⟩ : ByteArray), .string (⟨#[]⟩ : ByteArray)]) ?_ 0 _ rfl; (with_reducible repeat (first | refine blk_drewN ?_ _ | refine blk_drew ?_ | refine blk_alloc ?_ _)); exact BK139.out) hb); have n3_ := Aside0.mk (below_step (by repeat (first | (with_reducible first | exact HB.out | apply below_alloc | apply pw_below_drewN | apply below_drew1 | refine below_set ?_ GE139.out) | exact HB.out)) hb); clear HO_3; clear BK139; clear HB; have HO_3 := n0_; have HO142 := n1_; have BK139 := n2_; have HB := n3_; clear n0_ n1_ n2_ n3_; clear hb ho18; obtain ⟨Ao19, co19, eo19⟩ := Kd.R_slice HO142.out; subst eo19) | ((with_reducible refine gate_callee (f := 8) rfl ?_); refine goesL_ (some 28) rfl rfl Try.func8 (by kernel_rfl) rfl #[.slice Ao19 y140.length co19] rfl (by (try simp only [List.map_toArray, List.map_cons, List.map_nil]); first | done | rfl | (simp only [List.length_drop, List.length_take]; rfl)) ?_; (with_reducible refine (impl_MtRule.calls k2 _ _ y140 t143 _ ?side1 ?side2 A13.out).mono ?_); (case side1 => repeat (first | exact (Kd.R_reads' HO142.out).2.2 | (with_reducible refine Kd.C_alloc ?_ _) | (with_reducible refine Kd.C_drewN ?_ _) | (with_reducible refine Kd.C_drew ?_))); (case side2 => exact (Kd.R_reads' HO142.out).2.1); rintro e w20 ⟨rfl, hb⟩; refine ⟨_, rfl, ?_⟩; have n0_ := Aside0.mk (Kd.R_below (by (with_reducible repeat (first | apply Kd.R_alloc | apply Kd.R_drewN | apply Kd.R_drew)); exact HO_3.out) hb); have n1_ := Aside0.mk (Kd.R_below (by (with_reducible repeat (first | apply Kd.R_alloc | apply Kd.R_drewN | apply Kd.R_drew)); exact HO142.out) hb); have n2_ := Aside0.mk (blk_below (g := gb139) (o := .cells #[.string ((rd_T30 l0 x21_2).f0), .string ((rd_T30 l0 x21_2).f1)] 30 (0, 0)) (by (with_reducible repeat (first | refine blk_drewN ?_ _ | refine blk_drew ?_ | refine blk_alloc ?_ _)); exact BK139.out) hb); have n3_ := Aside0.mk (below_step (by repeat (first | (with_reducible first | exact HB.out | apply below_alloc | apply pw_below_drewN | apply below_drew1 | refine below_set ?_ GE139.out) | exact HB.out)) hb); clear HO_3; clear HO142; clear BK139; clear HB; have HO_3 := n0_; have HO142 := n1_; have BK139 := n2_; have HB := n3_; clear n0_ n1_ n2_ n3_; (try clear hb); (try clear hb2); (try clear hk); (try clear hi)) | ((with_reducible refine gate_builtin (b := .append) (xs := #[.tmp 25, .tmp 29]) rfl ?_); (try (refine gate_guard (by rfl) ?_; dsimp only)); at_builtin; refine Kd.R_append Kd.string (w0 := w) w.heap.size rfl (.tmp 25) (.tmp 29) 31 9 (.string ⟨#[]⟩) 16 rfl Try.underlying31 info9 rfl (by decide) (by omega) u3 x3_2 t143 [.string t143] (fun _ => True) (fun _ => False) rfl rfl ?aP (fun _ hk => hk.elim) ?aF ?aO ?aB ?aS ?aL ?_; (case aP => exact rfl); (case aB => exact (by repeat (first | (with_reducible first | exact HB.out | apply below_alloc | apply pw_below_drewN | apply below_drew1 | refine below_set ?_ GE139.out) | exact HB.out))); (case aF => exact (fun _ _ => trivial)); (case aO => exact (by (with_reducible repeat (first | apply Kd.R_alloc | apply Kd.R_drewN | apply Kd.R_drew)); exact HO_3.out)); (case aS => exact (below_size (by repeat (first | (with_reducible first | exact HB.out | apply below_alloc | apply pw_below_drewN | apply below_drew1 | refine below_set ?_ GE139.out) | exact HB.out)))); (case aL => have := LMc14.out; omega); intro v145 w21 ho hb hg hat; rw [← Ny144.out] at ho; have n0_ := Aside0.mk (blk_grown (g := gb139) (o := .cells #[.string ((rd_T30 l0 x21_2).f0), .string ((rd_T30 l0 x21_2).f1)] 30 (0, 0)) (by (with_reducible repeat (first | refine blk_drewN ?_ _ | refine blk_drew ?_ | refine blk_alloc ?_ _)); exact BK139.out) hg (Kd.R_ne HO_3.out BK139.out (by decide))); have n1_ := Aside0.mk (Kd.R_over' (by (with_reducible repeat (first | apply Kd.R_alloc | apply Kd.R_drewN | apply Kd.R_drew)); exact HO142.out) (Kd.R_typed (by (with_reducible repeat (first | apply Kd.R_alloc | apply Kd.R_drewN | apply Kd.R_drew)); exact HO_3.out)) (by decide) hg); have n2_ := Aside0.mk (hb); have n3_ := Aside0.mk (ho); clear BK139; clear HO142; clear HB; clear HO_3; have BK139 := n0_; have HO142 := n1_; have HB := n2_; have HO146 := n3_; clear n0_ n1_ n2_ n3_; clear ho hb hg hat; have hcz22_0 : w21.cell? ⟨gb139, 0, none⟩ = some (.string ((rd_T30 l0 x21_2).f0)) := (blk_cell BK139.out 0).trans rfl; have hcz22_1 : w21.cell? ⟨gb139, 1, none⟩ = some (.string ((rd_T30 l0 x21_2).f1)) := (blk_cell BK139.out 1).trans rfl; have hfz22_0 := blk_frozen BK139.out 0; have hfz22_1 := blk_frozen BK139.out 1))
                      go_roundg k2
                      case measure => have := HJ3.out; have := HK2.out; omega
                      case rel => exact ⟨(y144), (wrap64 (x4_2 + (wrap64 ((wrap64 ((((rd_T30 l0 x21_2).f0).size : Int) + (((rd_T30 l0 x21_2).f1).size : Int))) + 4)))), (wrap64 (x21_2 + 1)), (by first | rfl | (simp; done) | (simp [*]; done)), (by first | rfl | (simp; done) | (simp [*]; done)), H', ⟨by have := HJ3.out; have := HK2.out; omega⟩, ⟨by (with_reducible repeat (first | apply Kd.R_alloc | apply Kd.R_drewN | apply Kd.R_drew)); exact HO146.out⟩, ⟨by repeat (first | (with_reducible first | exact HB.out | apply below_alloc | apply pw_below_drewN | apply below_drew1 | refine below_set ?_ GE139.out) | exact HB.out)⟩⟩
                    · rw [if_neg c14] at H
                      exact absurd H (by simp)
                  · rw [if_neg c12] at H
                    exact absurd H (by simp)
                · rw [if_neg c11] at H
                  exact absurd H (by simp)
              · rw [if_neg c10] at H
                have c10b0 : decide (x21_2 < (l0.length : Int)) = false := decide_eq_false c10
                clear c10
                replace H := Option.bind_eq_some_iff.mp H
                obtain ⟨t147, A230, H⟩ := H
                replace H : ((spec_Joined.f k2 x3_2 (⟨#[44]⟩ : ByteArray)).bind fun t148 => (if t147.toList = t148.toList then (some ((t147.size : Int) == x4_2)) else (some false))) = some r := H
                have A23 := Aside0.mk A230
                clear A230
                replace H := Option.bind_eq_some_iff.mp H
                obtain ⟨t148, A240, H⟩ := H
                replace H : (if t147.toList = t148.toList then (some ((t147.size : Int) == x4_2)) else (some false)) = some r := H
                have A24 := Aside0.mk A240
                clear A240
                by_cases c25 : t147.toList = t148.toList
                · rw [if_pos c25] at H
                  have c25b0 : (t147.toList == t148.toList) = true := beq_iff_eq.mpr c25
                  have c25b1 : (t147.toList != t148.toList) = false := bne_eq_false_iff_eq.mpr c25
                  clear c25
                  obtain rfl := Option.some.inj H
                  go_wp2_with (first | ((with_reducible refine gate_callee (f := 8) rfl ?_); refine goesL_ (some 43) rfl rfl Try.func8 (by kernel_rfl) rfl #[.slice A0 l0.length c0] rfl (by (try simp only [List.map_toArray, List.map_cons, List.map_nil]); first | done | rfl | (simp only [List.length_drop, List.length_take]; rfl)) ?_; (with_reducible refine (impl_MtRule.calls k2 _ _ l0 t147 _ ?side1 ?side2 A23.out).mono ?_); (case side1 => repeat (first | exact (Kd.C_below HR0.out HB.out) | (with_reducible refine Kd.C_alloc ?_ _) | (with_reducible refine Kd.C_drewN ?_ _) | (with_reducible refine Kd.C_drew ?_))); (case side2 => exact HC0.out); rintro e w26 ⟨rfl, hb⟩; refine ⟨_, rfl, ?_⟩; have n0_ := Aside0.mk (Kd.R_below (by (with_reducible repeat (first | apply Kd.R_alloc | apply Kd.R_drewN | apply Kd.R_drew)); exact HO_3.out) hb); have n1_ := Aside0.mk (below_step (by repeat (first | (with_reducible first | exact HB.out | apply below_alloc | apply pw_below_drewN | apply below_drew1) | exact HB.out)) hb); clear HO_3; clear HB; have HO_3 := n0_; have HB := n1_; clear n0_ n1_; (try clear hb); (try clear hb2); (try clear hk); (try clear hi); obtain ⟨Ao27, co27, eo27⟩ := Kd.R_slice HO_3.out; subst eo27) | ((with_reducible refine gate_callee (f := 9) rfl ?_); refine goesL_ (some 46) rfl rfl Try.func9 (by kernel_rfl) rfl #[.slice Ao27 x3_2.length co27, .string (⟨#[44]⟩ : ByteArray)] rfl (by (try simp only [List.map_toArray, List.map_cons, List.map_nil]); first | done | rfl | (simp only [List.length_drop, List.length_take]; rfl)) ?_; (with_reducible refine (spec_Joined.calls k2 _ _ x3_2 (⟨#[44]⟩ : ByteArray) t148 _ ?side1 ?side2 A24.out).mono ?_); (case side1 => repeat (first | exact (Kd.R_reads' HO_3.out).2.2 | (with_reducible refine Kd.C_alloc ?_ _) | (with_reducible refine Kd.C_drewN ?_ _) | (with_reducible refine Kd.C_drew ?_))); (case side2 => exact (Kd.R_reads' HO_3.out).2.1); rintro e w' ⟨rfl, ⟨nd, rfl⟩⟩; refine ⟨_, rfl, ?_⟩))
                  go_ret
                  exact ⟨by first | rfl | (simp [errW_none, errW_some] <;> rfl) | (simp [*, errW_none, errW_some] <;> rfl), by repeat (first | (with_reducible first | exact HB.out | apply below_alloc | apply pw_below_drewN | apply below_drew1) | exact HB.out)⟩
                · rw [if_neg c25] at H
                  have c25b0 : (t147.toList == t148.toList) = false := beq_eq_false_iff_ne.mpr c25
                  have c25b1 : (t147.toList != t148.toList) = true := bne_iff_ne.mpr c25
                  obtain rfl := Option.some.inj H
                  go_wp2_with (first | ((with_reducible refine gate_callee (f := 8) rfl ?_); refine goesL_ (some 43) rfl rfl Try.func8 (by kernel_rfl) rfl #[.slice A0 l0.length c0] rfl (by (try simp only [List.map_toArray, List.map_cons, List.map_nil]); first | done | rfl | (simp only [List.length_drop, List.length_take]; rfl)) ?_; (with_reducible refine (impl_MtRule.calls k2 _ _ l0 t147 _ ?side1 ?side2 A23.out).mono ?_); (case side1 => repeat (first | exact (Kd.C_below HR0.out HB.out) | (with_reducible refine Kd.C_alloc ?_ _) | (with_reducible refine Kd.C_drewN ?_ _) | (with_reducible refine Kd.C_drew ?_))); (case side2 => exact HC0.out); rintro e w28 ⟨rfl, hb⟩; refine ⟨_, rfl, ?_⟩; have n0_ := Aside0.mk (Kd.R_below (by (with_reducible repeat (first | apply Kd.R_alloc | apply Kd.R_drewN | apply Kd.R_drew)); exact HO_3.out) hb); have n1_ := Aside0.mk (below_step (by repeat (first | (with_reducible first | exact HB.out | apply below_alloc | apply pw_below_drewN | apply below_drew1) | exact HB.out)) hb); clear HO_3; clear HB; have HO_3 := n0_; have HB := n1_; clear n0_ n1_; (try clear hb); (try clear hb2); (try clear hk); (try clear hi); obtain ⟨Ao29, co29, eo29⟩ := Kd.R_slice HO_3.out; subst eo29) | ((with_reducible refine gate_callee (f := 9) rfl ?_); refine goesL_ (some 46) rfl rfl Try.func9 (by kernel_rfl) rfl #[.slice Ao29 x3_2.length co29, .string (⟨#[44]⟩ : ByteArray)] rfl (by (try simp only [List.map_toArray, List.map_cons, List.map_nil]); first | done | rfl | (simp only [List.length_drop, List.length_take]; rfl)) ?_; (with_reducible refine (spec_Joined.calls k2 _ _ x3_2 (⟨#[44]⟩ : ByteArray) t148 _ ?side1 ?side2 A24.out).mono ?_); (case side1 => repeat (first | exact (Kd.R_reads' HO_3.out).2.2 | (with_reducible refine Kd.C_alloc ?_ _) | (with_reducible refine Kd.C_drewN ?_ _) | (with_reducible refine Kd.C_drew ?_))); (case side2 => exact (Kd.R_reads' HO_3.out).2.1); rintro e w' ⟨rfl, ⟨nd, rfl⟩⟩; refine ⟨_, rfl, ?_⟩))
                  go_ret
                  exact ⟨by first | rfl | (simp [errW_none, errW_some] <;> rfl) | (simp [*, errW_none, errW_some] <;> rfl), by repeat (first | (with_reducible first | exact HB.out | apply below_alloc | apply pw_below_drewN | apply below_drew1) | exact HB.out)⟩
  · replace c3 := Bool.eq_false_iff.mpr c3
    subst c3
    have H1 : (some true) = some r := by rw [if_neg (show ¬ (false = true) by decide)] at H; exact H
    clear H
    have H := H1
    clear H1
    obtain rfl := Option.some.inj H
    go_enter Try.func4, Try.ntmps4
    go_wp2_with (first | ((with_reducible refine gate_callee (f := 5) rfl ?_); refine goesL_ (some 9) rfl rfl Try.func5 (by kernel_rfl) rfl #[.slice A0 l0.length c0] rfl (by (try simp only [List.map_toArray, List.map_cons, List.map_nil]); first | done | rfl | (simp only [List.length_drop, List.length_take]; rfl)) ?_; (with_reducible refine (laws_zzFits3.calls k _ _ l0 false _ ?side1 ?side2 A2.out).mono ?_); (case side1 => repeat (first | exact HR0.out | (with_reducible refine Kd.C_alloc ?_ _) | (with_reducible refine Kd.C_drewN ?_ _) | (with_reducible refine Kd.C_drew ?_))); (case side2 => exact HC0.out); rintro e w30 ⟨rfl, hb⟩; refine ⟨_, rfl, ?_⟩; have n0_ := Aside0.mk (below_step (by repeat (first | (with_reducible first | exact HB.out | apply below_alloc | apply pw_below_drewN | apply below_drew1) | exact HB.out)) hb); clear HB; have HB := n0_; clear n0_; (try clear hb); (try clear hb2); (try clear hk); (try clear hi)))
    go_ret
    exact ⟨by first | rfl | (simp [errW_none, errW_some] <;> rfl) | (simp [*, errW_none, errW_some] <;> rfl), by repeat (first | (with_reducible first | exact HB.out | apply below_alloc | apply pw_below_drewN | apply below_drew1) | exact HB.out)⟩

end Go.Proofs.Ytoldgnmgjpjapaa.Q
