-- Written by a program of this session out of the translation; Lean checks it.
import Derived.Test.YthhiijehdpchbaaQ0
import Derived.Test.YthhiijehdpchbaaQ4
namespace Go.Proofs.Ythhiijehdpchbaa.Q
open Go.RowKit Go.Proofs.Ythhiijehdpchbaa.Ext Go.Proofs.YthhiijehdpchbaaW.PrintWords Go.Proofs.YthhiijehdpchbaaW.PrintLast Go.Proofs.YthhiijehdpchbaaW.PrintMore
attribute [local go_sem] max2_int min2_int max_two min_two max_three min_three max_four min_four   -- for this text's walks alone
set_option linter.unusedVariables false
set_option linter.unusedSimpArgs false

/-! ### laws_FnSgGrammar: function 5 -/
mutual
def laws_FnSgGrammar.l0 : Nat → ByteArray → List ByteArray → Int → Option (Bool)
  | 0, _, _, _ => none
  | k + 1, x0, x3, x4 => if x4 < (x3.length : Int) then (if 0 ≤ x4 then ((laws_sgLeft.f k (rdOf ByteArray.empty x3 x4)).bind fun t205 => (if t205 = true then (laws_FnSgGrammar.j1 k x0 x3 x4 (rdOf ByteArray.empty x3 x4)) else ((impl_SgParse.f k (rdOf ByteArray.empty x3 x4)).bind fun bt206 => ((spec_Valid.f k (rdOf ByteArray.empty x3 x4)).bind fun t208 => (if (bt206.2 != t208) = true then (some false) else (laws_FnSgGrammar.j1 k x0 x3 x4 (rdOf ByteArray.empty x3 x4))))))) else (none)) else ((impl_SgParse.f k (⟨#[121]⟩ : ByteArray)).bind fun bt202 => (some bt202.2))
def laws_FnSgGrammar.j1 : Nat → ByteArray → List ByteArray → Int → ByteArray → Option (Bool)
  | 0, _, _, _, _ => none
  | k + 1, x0, x3, x4, x5 => laws_FnSgGrammar.l1 k x0 x3 x4 x5 0
def laws_FnSgGrammar.l1 : Nat → ByteArray → List ByteArray → Int → ByteArray → Int → Option (Bool)
  | 0, _, _, _, _, _ => none
  | k + 1, x0, x3, x4, x5, x8 => if x8 < (x0.size : Int) then (if (x5.size : Int) < 4 then (if 0 ≤ x8 then (if x8 ≤ (wrap64 (x8 + 1)) then (if (wrap64 (x8 + 1)) ≤ (x0.size : Int) then (if x5.size + (x0.extract (x8 : Int).toNat ((wrap64 (x8 + 1)) : Int).toNat).size ≤ 9223372036854775807 then (if x3.length < 8796093022208 then (laws_FnSgGrammar.l1 k x0 (x3 ++ [x5 ++ (x0.extract (x8 : Int).toNat ((wrap64 (x8 + 1)) : Int).toNat)]) x4 x5 (wrap64 (x8 + 1))) else (none)) else (none)) else (none)) else (none)) else (none)) else (laws_FnSgGrammar.l0 k x0 x3 (wrap64 (x4 + 1)))) else (laws_FnSgGrammar.l0 k x0 x3 (wrap64 (x4 + 1)))
end
def laws_FnSgGrammar.f (k : Nat) (a0 : ByteArray) : Option (Bool) := if (a0.size : Int) > 2147483647 then (some true) else (if (a0.size : Int) > 7 then (some true) else (laws_FnSgGrammar.l0 k a0 (([(⟨#[]⟩ : ByteArray)] : List ByteArray)) 0))
theorem laws_FnSgGrammar.mono_l : ∀ k, (∀ y0 y1 y2, LeO (laws_FnSgGrammar.l0 k y0 y1 y2) (laws_FnSgGrammar.l0 (k + 1) y0 y1 y2)) ∧ (∀ y0 y1 y2 y3, LeO (laws_FnSgGrammar.j1 k y0 y1 y2 y3) (laws_FnSgGrammar.j1 (k + 1) y0 y1 y2 y3)) ∧ (∀ y0 y1 y2 y3 y4, LeO (laws_FnSgGrammar.l1 k y0 y1 y2 y3 y4) (laws_FnSgGrammar.l1 (k + 1) y0 y1 y2 y3 y4))
  | 0 => ⟨fun _ _ _ r h => by simp [laws_FnSgGrammar.l0] at h, fun _ _ _ _ r h => by simp [laws_FnSgGrammar.j1] at h, fun _ _ _ _ _ r h => by simp [laws_FnSgGrammar.l1] at h⟩
  | k + 1 => by
    obtain ⟨ih0, ih1, ih2⟩ := laws_FnSgGrammar.mono_l k
    refine ⟨?_, ?_, ?_⟩
    · intro y0 y1 y2
      unfold laws_FnSgGrammar.l0
      repeat' first
      | (with_reducible exact ih0 _ _ _)
      | (with_reducible exact ih1 _ _ _ _)
      | (with_reducible exact ih2 _ _ _ _ _)
      | (with_reducible exact impl_SgParse.mono _ _)
      | (with_reducible exact laws_sgLeft.mono _ _)
      | (with_reducible exact spec_Valid.mono _ _)
      | (with_reducible exact LeO.refl _)
      | (with_reducible exact LeO.none _)
      | (with_reducible refine LeO.ite ?_ ?_)
      | (with_reducible refine LeO.bind ?_ (fun _ => ?_))
      | exact ih0 _ _ _
      | exact ih1 _ _ _ _
      | exact ih2 _ _ _ _ _
      | exact impl_SgParse.mono _ _
      | exact laws_sgLeft.mono _ _
      | exact spec_Valid.mono _ _
      | exact LeO.none _
      | refine LeO.ite ?_ ?_
      | refine LeO.bind ?_ (fun _ => ?_)
    · intro y0 y1 y2 y3
      unfold laws_FnSgGrammar.j1
      repeat' first
      | (with_reducible exact ih0 _ _ _)
      | (with_reducible exact ih1 _ _ _ _)
      | (with_reducible exact ih2 _ _ _ _ _)
      | (with_reducible exact impl_SgParse.mono _ _)
      | (with_reducible exact laws_sgLeft.mono _ _)
      | (with_reducible exact spec_Valid.mono _ _)
      | (with_reducible exact LeO.refl _)
      | (with_reducible exact LeO.none _)
      | (with_reducible refine LeO.ite ?_ ?_)
      | (with_reducible refine LeO.bind ?_ (fun _ => ?_))
      | exact ih0 _ _ _
      | exact ih1 _ _ _ _
      | exact ih2 _ _ _ _ _
      | exact impl_SgParse.mono _ _
      | exact laws_sgLeft.mono _ _
      | exact spec_Valid.mono _ _
      | exact LeO.none _
      | refine LeO.ite ?_ ?_
      | refine LeO.bind ?_ (fun _ => ?_)
    · intro y0 y1 y2 y3 y4
      unfold laws_FnSgGrammar.l1
      repeat' first
      | (with_reducible exact ih0 _ _ _)
      | (with_reducible exact ih1 _ _ _ _)
      | (with_reducible exact ih2 _ _ _ _ _)
      | (with_reducible exact impl_SgParse.mono _ _)
      | (with_reducible exact laws_sgLeft.mono _ _)
      | (with_reducible exact spec_Valid.mono _ _)
      | (with_reducible exact LeO.refl _)
      | (with_reducible exact LeO.none _)
      | (with_reducible refine LeO.ite ?_ ?_)
      | (with_reducible refine LeO.bind ?_ (fun _ => ?_))
      | exact ih0 _ _ _
      | exact ih1 _ _ _ _
      | exact ih2 _ _ _ _ _
      | exact impl_SgParse.mono _ _
      | exact laws_sgLeft.mono _ _
      | exact spec_Valid.mono _ _
      | exact LeO.none _
      | refine LeO.ite ?_ ?_
      | refine LeO.bind ?_ (fun _ => ?_)
theorem laws_FnSgGrammar.mono : ∀ a0 k, LeO (laws_FnSgGrammar.f k a0) (laws_FnSgGrammar.f (k + 1) a0) := by
  intro a0 k
  obtain ⟨ih0, ih1, ih2⟩ := laws_FnSgGrammar.mono_l k
  unfold laws_FnSgGrammar.f
  repeat' first
      | (with_reducible exact ih0 _ _ _)
      | (with_reducible exact ih1 _ _ _ _)
      | (with_reducible exact ih2 _ _ _ _ _)
      | (with_reducible exact impl_SgParse.mono _ _)
      | (with_reducible exact laws_sgLeft.mono _ _)
      | (with_reducible exact spec_Valid.mono _ _)
      | (with_reducible exact LeO.refl _)
      | (with_reducible exact LeO.none _)
      | (with_reducible refine LeO.ite ?_ ?_)
      | (with_reducible refine LeO.bind ?_ (fun _ => ?_))
      | exact ih0 _ _ _
      | exact ih1 _ _ _ _
      | exact ih2 _ _ _ _ _
      | exact impl_SgParse.mono _ _
      | exact laws_sgLeft.mono _ _
      | exact spec_Valid.mono _ _
      | exact LeO.none _
      | refine LeO.ite ?_ ?_
      | refine LeO.bind ?_ (fun _ => ?_)
set_option maxHeartbeats 8000000 in
set_option maxRecDepth 100000 in
theorem laws_FnSgGrammar.calls (k : Nat) (a0 : ByteArray) (r : Bool) (w : World) (h : laws_FnSgGrammar.f k a0 = some r) :
    Calls Try.prog 5 #[.string a0] w fun e w' => e = .returned (.bool r) ∧ Below w.heap.size w w' := by
  have HB := Aside0.mk (Below.refl w.heap.size w)
  have H : (if (a0.size : Int) > 2147483647 then (some true) else (if (a0.size : Int) > 7 then (some true) else (laws_FnSgGrammar.l0 k a0 (([(⟨#[]⟩ : ByteArray)] : List ByteArray)) 0))) = some r := h
  clear h
  by_cases c2 : (a0.size : Int) > 2147483647
  · rw [if_pos c2] at H
    have c2b0 : decide (2147483647 < (a0.size : Int)) = true := decide_eq_true c2
    have c2b1 : decide (2147483647 < a0.size) = true := decide_eq_true (by omega)
    clear c2
    obtain rfl := Option.some.inj H
    go_enter Try.func5, Try.ntmps5
    go_wp2
    go_ret
    exact ⟨by first | rfl | (simp [errW_none, errW_some] <;> rfl) | (simp [*, errW_none, errW_some] <;> rfl), by repeat (first | (with_reducible first | exact HB.out | apply below_alloc | apply pw_below_drewN | apply below_drew1) | exact HB.out)⟩
  · rw [if_neg c2] at H
    have c2b0 : decide (2147483647 < (a0.size : Int)) = false := decide_eq_false c2
    have c2b1 : decide (2147483647 < a0.size) = false := decide_eq_false (by omega)
    clear c2
    by_cases c3 : (a0.size : Int) > 7
    · rw [if_pos c3] at H
      have c3b0 : decide (7 < (a0.size : Int)) = true := decide_eq_true c3
      have c3b1 : decide (7 < a0.size) = true := decide_eq_true (by omega)
      clear c3
      obtain rfl := Option.some.inj H
      go_enter Try.func5, Try.ntmps5
      go_wp2
      go_ret
      exact ⟨by first | rfl | (simp [errW_none, errW_some] <;> rfl) | (simp [*, errW_none, errW_some] <;> rfl), by repeat (first | (with_reducible first | exact HB.out | apply below_alloc | apply pw_below_drewN | apply below_drew1) | exact HB.out)⟩
    · rw [if_neg c3] at H
      have c3b0 : decide (7 < (a0.size : Int)) = false := decide_eq_false c3
      have c3b1 : decide (7 < a0.size) = false := decide_eq_false (by omega)
      clear c3
      obtain ⟨y199, hy199⟩ : ∃ y_ : List ByteArray, y_ = (([(⟨#[]⟩ : ByteArray)] : List ByteArray)) := ⟨_, rfl⟩
      replace H : (laws_FnSgGrammar.l0 k a0 y199 0) = some r := by first | (rw [hy199]; with_reducible exact H) | (have H2_ := (Option.bind_some _ _).symm.trans H; rw [hy199]; with_reducible exact H2_) | (have H2_ := (Option.bind_some _ _).symm.trans H; with_reducible exact H2_) | with_reducible exact H | (rw [hy199]; exact H) | exact H
      have Ny199 := Aside0.mk hy199
      clear hy199
      have H' := Aside0.mk H
      clear H
      go_enter Try.func5, Try.ntmps5
      go_wp2_with (first | ((with_reducible refine gate_dst (N := 17) rfl ?_); (try (refine gate_guard (by rfl) ?_; dsimp only)); refine Kd.R_lit Kd.string _ 9 ?hg (N := 17) ?hd (xs := ([(⟨#[]⟩ : ByteArray)] : List ByteArray)) (inner := [.string (⟨#[]⟩ : ByteArray)]) (ok := fun _ => True) (okp := fun _ => True) ?hr ?hp (fun _ hk => hk) trivial (Below.refl _ _) (Nat.le_refl _) (by simp) ?_; (case hd => rfl); (case hg => rfl); (case hr => first | (go_simp; done) | (go_simp; rfl)); (case hp => exact (Reps.one (show Kd.M Kd.string _ _ _ (⟨#[]⟩ : ByteArray) [.string (⟨#[]⟩ : ByteArray)] from rfl) (Reps.none _ _))); intro v200 w4 ho5 hb hg_ hnew_; clear hg_ hnew_; (first | rw [← Ny199.out] at ho5 | (simp only [Int.reduceToNat] at ho5; rw [← Ny199.out] at ho5)); have n0_ := Aside0.mk (Kd.R_lower ho5 (below_size (by repeat (first | (with_reducible first | exact HB.out | apply below_alloc | apply pw_below_drewN | apply below_drew1) | exact HB.out)))); have n1_ := Aside0.mk (below_step (by repeat (first | (with_reducible first | exact HB.out | apply below_alloc | apply pw_below_drewN | apply below_drew1) | exact HB.out)) hb); clear HB; have HO201 := n0_; have HB := n1_; clear n0_ n1_; clear hb ho5))
      go_loopg [3, 4] k (fun kq v3 v4 w' => ∃ (x3_1 : List ByteArray) (x4_1 : Int), v4 = .int .i64 x4_1 ∧ Aside0 (laws_FnSgGrammar.l0 kq a0 x3_1 x4_1 = some r) ∧ Aside0 (kq ≤ k) ∧ Aside0 (Kd.R Kd.string 9 w' w.heap.size (fun _ => True) v3 x3_1) ∧ Aside0 (Below w.heap.size w w'))
      case atStart => exact ⟨(y199), (0), (by first | rfl | (simp; done) | (simp [*]; done)), H', ⟨Nat.le_refl _⟩, ⟨by (with_reducible repeat (first | apply Kd.R_alloc | apply Kd.R_drewN | apply Kd.R_drew)); exact HO201.out⟩, ⟨by repeat (first | (with_reducible first | exact HB.out | apply below_alloc | apply pw_below_drewN | apply below_drew1) | exact HB.out)⟩⟩
      case round =>
        clear H'
        try clear c2
        try clear c2b0
        try clear c2b1
        try clear p2
        try clear c3
        try clear c3b0
        try clear c3b1
        try clear c5
        obtain ⟨x3_1, x4_1, rfl, HA, HK1, HO_3, HB⟩ := hrel
        cases gk with
        | zero => exact absurd HA.out (by simp [laws_FnSgGrammar.l0])
        | succ k1 =>
          have H := HA.out
          clear HA
          simp only [laws_FnSgGrammar.l0] at H
          by_cases c6 : x4_1 < (x3_1.length : Int)
          · rw [if_pos c6] at H
            have c6b0 : decide (x4_1 < (x3_1.length : Int)) = true := decide_eq_true c6
            clear c6
            by_cases c7 : 0 ≤ x4_1
            · rw [if_pos c7] at H
              have c7b0 : decide (0 ≤ x4_1) = true := decide_eq_true c7
              clear c7
              replace H := Option.bind_eq_some_iff.mp H
              obtain ⟨t205, A80, H⟩ := H
              replace H : (if t205 = true then (laws_FnSgGrammar.j1 k1 a0 x3_1 x4_1 (rdOf ByteArray.empty x3_1 x4_1)) else ((impl_SgParse.f k1 (rdOf ByteArray.empty x3_1 x4_1)).bind fun bt206 => ((spec_Valid.f k1 (rdOf ByteArray.empty x3_1 x4_1)).bind fun t208 => (if (bt206.2 != t208) = true then (some false) else (laws_FnSgGrammar.j1 k1 a0 x3_1 x4_1 (rdOf ByteArray.empty x3_1 x4_1)))))) = some r := H
              have A8 := Aside0.mk A80
              clear A80
              have HC9 := Aside0.mk H
              clear H
              obtain ⟨Ao10, co10, eo10⟩ := Kd.R_slice HO_3.out
              subst eo10
              have p204 : 0 ≤ (x4_1 : Int) := of_decide_eq_true (by first | (with_reducible assumption) | assumption)
              have q204 : x4_1 < (x3_1.length : Int) := of_decide_eq_true (by first | (with_reducible assumption) | assumption)
              obtain ⟨ad204, e204, hx204_0⟩ := Kd.at_string (Kd.R_reads' HO_3.out).2.2 x4_1 p204 q204
              cases e204
              replace p204 := eq_true p204
              replace q204 := eq_true q204
              go_upto_if 30 with (first | ((with_reducible refine gate_callee (f := 13) rfl ?_); refine goesL_ (some 29) rfl rfl Try.func13 (by kernel_rfl) rfl #[.string (rdOf ByteArray.empty x3_1 x4_1)] rfl (by (try simp only [List.map_toArray, List.map_cons, List.map_nil]); first | done | rfl | (simp only [List.length_drop, List.length_take]; rfl)) ?_; (with_reducible refine (laws_sgLeft.calls k1 (rdOf ByteArray.empty x3_1 x4_1) t205 _ A8.out).mono ?_); rintro e w11 ⟨rfl, hb⟩; refine ⟨_, rfl, ?_⟩; have n0_ := Aside0.mk (Kd.R_below (by (with_reducible repeat (first | apply Kd.R_alloc | apply Kd.R_drewN | apply Kd.R_drew)); exact HO_3.out) hb); have n1_ := Aside0.mk (below_step (by repeat (first | (with_reducible first | exact HB.out | apply below_alloc | apply pw_below_drewN | apply below_drew1) | exact HB.out)) hb); clear HO_3; clear HB; have HO_3 := n0_; have HB := n1_; clear n0_ n1_; (try clear hb); (try clear hb2); (try clear hk); (try clear hi)))
              (try simp only [Act.put, List.setIfInBounds_toArray, List.set_cons_zero, List.set_cons_succ])
              go_cut [] (fun wc => ∃ (kq : Nat), Aside0 (laws_FnSgGrammar.j1 kq a0 x3_1 x4_1 (rdOf ByteArray.empty x3_1 x4_1) = some r) ∧ Aside0 (kq ≤ k1) ∧ Aside0 (Kd.R Kd.string 9 wc w.heap.size (fun _ => True) (.slice (some ad204) x3_1.length co10) x3_1) ∧ Aside0 (Below w.heap.size w wc))
              case first =>
                have H := HC9.out
                clear HC9
                by_cases c12 : t205 = true
                · subst c12
                  have H1 : (laws_FnSgGrammar.j1 k1 a0 x3_1 x4_1 (rdOf ByteArray.empty x3_1 x4_1)) = some r := by rw [if_pos rfl] at H; exact H
                  clear H
                  have H := H1
                  clear H1
                  have H' := Aside0.mk H
                  clear H
                  go_wp2
                  go_meet
                  case rel => exact ⟨_, H', ⟨by have := HK1.out; first | omega | exact Nat.le_refl _⟩, ⟨by (with_reducible repeat (first | apply Kd.R_alloc | apply Kd.R_drewN | apply Kd.R_drew)); exact HO_3.out⟩, ⟨by repeat (first | (with_reducible first | exact HB.out | apply below_alloc | apply pw_below_drewN | apply below_drew1) | exact HB.out)⟩⟩
                · replace c12 := Bool.eq_false_iff.mpr c12
                  subst c12
                  have H1 : ((impl_SgParse.f k1 (rdOf ByteArray.empty x3_1 x4_1)).bind fun bt206 => ((spec_Valid.f k1 (rdOf ByteArray.empty x3_1 x4_1)).bind fun t208 => (if (bt206.2 != t208) = true then (some false) else (laws_FnSgGrammar.j1 k1 a0 x3_1 x4_1 (rdOf ByteArray.empty x3_1 x4_1))))) = some r := by rw [if_neg (show ¬ (false = true) by decide)] at H; exact H
                  clear H
                  have H := H1
                  clear H1
                  replace H := Option.bind_eq_some_iff.mp H
                  obtain ⟨⟨t206, t207⟩, A130, H⟩ := H
                  replace H : ((spec_Valid.f k1 (rdOf ByteArray.empty x3_1 x4_1)).bind fun t208 => (if (t207 != t208) = true then (some false) else (laws_FnSgGrammar.j1 k1 a0 x3_1 x4_1 (rdOf ByteArray.empty x3_1 x4_1)))) = some r := H
                  have A13 := Aside0.mk A130
                  clear A130
                  replace H := Option.bind_eq_some_iff.mp H
                  obtain ⟨t208, A140, H⟩ := H
                  replace H : (if (t207 != t208) = true then (some false) else (laws_FnSgGrammar.j1 k1 a0 x3_1 x4_1 (rdOf ByteArray.empty x3_1 x4_1))) = some r := H
                  have A14 := Aside0.mk A140
                  clear A140
                  by_cases c15 : (t207 != t208) = true
                  · rw [if_pos c15] at H
                    have c15b0 : (t207 != t208) = true := c15
                    (try (have c15b1 : decide (t207 = t208) = false := by simpa using c15))
                    (try (have c15b2 : (t207 == t208) = false := by simpa using c15))
                    (try (have c15b3 : ¬ (t207 = t208) := by simpa using c15))
                    clear c15
                    (first | rw [c15b0] | (simp only [i64_w, i32_w]; rw [c15b0]) | skip)
                    obtain rfl := Option.some.inj H
                    go_wp2_with (first | ((with_reducible refine gate_callee (f := 10) rfl ?_); refine goesL_ (some 33) rfl rfl Try.func10 (by kernel_rfl) rfl #[.string (rdOf ByteArray.empty x3_1 x4_1)] rfl (by (try simp only [List.map_toArray, List.map_cons, List.map_nil]); first | done | rfl | (simp only [List.length_drop, List.length_take]; rfl)) ?_; (with_reducible refine (impl_SgParse.calls k1 (rdOf ByteArray.empty x3_1 x4_1) t206 t207 _ A13.out).mono ?_); rintro e w16 ⟨rfl, hb⟩; refine ⟨_, rfl, ?_⟩; have n0_ := Aside0.mk (Kd.R_below (by (with_reducible repeat (first | apply Kd.R_alloc | apply Kd.R_drewN | apply Kd.R_drew)); exact HO_3.out) hb); have n1_ := Aside0.mk (below_step (by repeat (first | (with_reducible first | exact HB.out | apply below_alloc | apply pw_below_drewN | apply below_drew1) | exact HB.out)) hb); clear HO_3; clear HB; have HO_3 := n0_; have HB := n1_; clear n0_ n1_; (try clear hb); (try clear hb2); (try clear hk); (try clear hi)) | ((with_reducible refine gate_callee (f := 14) rfl ?_); refine goesL_ (some 38) rfl rfl Try.func14 (by kernel_rfl) rfl #[.string (rdOf ByteArray.empty x3_1 x4_1)] rfl (by (try simp only [List.map_toArray, List.map_cons, List.map_nil]); first | done | rfl | (simp only [List.length_drop, List.length_take]; rfl)) ?_; (with_reducible refine (spec_Valid.calls k1 (rdOf ByteArray.empty x3_1 x4_1) t208 _ A14.out).mono ?_); rintro e w17 ⟨rfl, hb⟩; refine ⟨_, rfl, ?_⟩; have n0_ := Aside0.mk (Kd.R_below (by (with_reducible repeat (first | apply Kd.R_alloc | apply Kd.R_drewN | apply Kd.R_drew)); exact HO_3.out) hb); have n1_ := Aside0.mk (below_step (by repeat (first | (with_reducible first | exact HB.out | apply below_alloc | apply pw_below_drewN | apply below_drew1) | exact HB.out)) hb); clear HO_3; clear HB; have HO_3 := n0_; have HB := n1_; clear n0_ n1_; (try clear hb); (try clear hb2); (try clear hk); (try clear hi)))
                    go_ret
                    exact ⟨by first | rfl | (simp [errW_none, errW_some] <;> rfl) | (simp [*, errW_none, errW_some] <;> rfl), by repeat (first | (with_reducible first | exact HB.out | apply below_alloc | apply pw_below_drewN | apply below_drew1) | exact HB.out)⟩
                  · rw [if_neg c15] at H
                    have c15b0 : (t207 != t208) = false := by simpa using c15
                    (try (have c15b1 : decide (t207 = t208) = true := by simpa using c15))
                    (try (have c15b2 : (t207 == t208) = true := by simpa using c15))
                    clear c15
                    (first | rw [c15b0] | (simp only [i64_w, i32_w]; rw [c15b0]) | skip)
                    have H' := Aside0.mk H
                    clear H
                    go_wp2_with (first | ((with_reducible refine gate_callee (f := 10) rfl ?_); refine goesL_ (some 33) rfl rfl Try.func10 (by kernel_rfl) rfl #[.string (rdOf ByteArray.empty x3_1 x4_1)] rfl (by (try simp only [List.map_toArray, List.map_cons, List.map_nil]); first | done | rfl | (simp only [List.length_drop, List.length_take]; rfl)) ?_; (with_reducible refine (impl_SgParse.calls k1 (rdOf ByteArray.empty x3_1 x4_1) t206 t207 _ A13.out).mono ?_); rintro e w18 ⟨rfl, hb⟩; refine ⟨_, rfl, ?_⟩; have n0_ := Aside0.mk (Kd.R_below (by (with_reducible repeat (first | apply Kd.R_alloc | apply Kd.R_drewN | apply Kd.R_drew)); exact HO_3.out) hb); have n1_ := Aside0.mk (below_step (by repeat (first | (with_reducible first | exact HB.out | apply below_alloc | apply pw_below_drewN | apply below_drew1) | exact HB.out)) hb); clear HO_3; clear HB; have HO_3 := n0_; have HB := n1_; clear n0_ n1_; (try clear hb); (try clear hb2); (try clear hk); (try clear hi)) | ((with_reducible refine gate_callee (f := 14) rfl ?_); refine goesL_ (some 38) rfl rfl Try.func14 (by kernel_rfl) rfl #[.string (rdOf ByteArray.empty x3_1 x4_1)] rfl (by (try simp only [List.map_toArray, List.map_cons, List.map_nil]); first | done | rfl | (simp only [List.length_drop, List.length_take]; rfl)) ?_; (with_reducible refine (spec_Valid.calls k1 (rdOf ByteArray.empty x3_1 x4_1) t208 _ A14.out).mono ?_); rintro e w19 ⟨rfl, hb⟩; refine ⟨_, rfl, ?_⟩; have n0_ := Aside0.mk (Kd.R_below (by (with_reducible repeat (first | apply Kd.R_alloc | apply Kd.R_drewN | apply Kd.R_drew)); exact HO_3.out) hb); have n1_ := Aside0.mk (below_step (by repeat (first | (with_reducible first | exact HB.out | apply below_alloc | apply pw_below_drewN | apply below_drew1) | exact HB.out)) hb); clear HO_3; clear HB; have HO_3 := n0_; have HB := n1_; clear n0_ n1_; (try clear hb); (try clear hb2); (try clear hk); (try clear hi)))
                    go_meet
                    case rel => exact ⟨_, H', ⟨by have := HK1.out; first | omega | exact Nat.le_refl _⟩, ⟨by (with_reducible repeat (first | apply Kd.R_alloc | apply Kd.R_drewN | apply Kd.R_drew)); exact HO_3.out⟩, ⟨by repeat (first | (with_reducible first | exact HB.out | apply below_alloc | apply pw_below_drewN | apply below_drew1) | exact HB.out)⟩⟩
              case rest =>
                clear HC9
                try clear c1
                try clear c2
                try clear c2b0
                try clear c2b1
                try clear p2
                try clear q2
                try clear hx2
                try clear c3
                try clear c3b0
                try clear c3b1
                try clear c5
                try clear c6
                try clear c6b0
                try clear c7
                try clear c7b0
                try clear c10
                try clear c12
                try clear c13
                try clear c14
                try clear c15
                try clear c15b0
                try clear c15b1
                try clear c15b2
                try clear hx204_0
                try clear p2
                try clear p204
                try clear q204
                obtain ⟨kq, HA, HJ8, HO_3, HB⟩ := hcut
                cases kq with
                | zero => exact absurd HA.out (by simp [laws_FnSgGrammar.j1])
                | succ kj8 =>
                  have H := HA.out
                  clear HA
                  simp only [laws_FnSgGrammar.j1] at H
                  have H' := Aside0.mk H
                  clear H
                  go_wp2
                  go_loopg [3, 8] kj8 (fun kq v3 v8 w' => ∃ (x3_3 : List ByteArray) (x8_3 : Int), v8 = .int .i64 x8_3 ∧ Aside0 (laws_FnSgGrammar.l1 kq a0 x3_3 x4_1 (rdOf ByteArray.empty x3_1 x4_1) x8_3 = some r) ∧ Aside0 (kq ≤ kj8) ∧ Aside0 (Kd.R Kd.string 9 w' w.heap.size (fun _ => True) v3 x3_3) ∧ Aside0 (Below w.heap.size w w'))
                  case atStart => exact ⟨(x3_1), (0), (by first | rfl | (simp; done) | (simp [*]; done)), H', ⟨Nat.le_refl _⟩, ⟨by (with_reducible repeat (first | apply Kd.R_alloc | apply Kd.R_drewN | apply Kd.R_drew)); exact HO_3.out⟩, ⟨by repeat (first | (with_reducible first | exact HB.out | apply below_alloc | apply pw_below_drewN | apply below_drew1) | exact HB.out)⟩⟩
                  case round =>
                    clear H'
                    try clear c1
                    try clear c2
                    try clear c2b0
                    try clear c2b1
                    try clear p2
                    try clear q2
                    try clear hx2
                    try clear c3
                    try clear c3b0
                    try clear c3b1
                    try clear c5
                    try clear c6
                    try clear c6b0
                    try clear c7
                    try clear c7b0
                    try clear c10
                    try clear c12
                    try clear c13
                    try clear c14
                    try clear c15
                    try clear c15b0
                    try clear c15b1
                    try clear c15b2
                    try clear hx204_0
                    try clear p2
                    try clear p204
                    try clear q2
                    try clear q204
                    obtain ⟨x3_3, x8_3, rfl, HA, HK3, HO_3, HB⟩ := hrel
                    cases gk with
                    | zero => exact absurd HA.out (by simp [laws_FnSgGrammar.l1])
                    | succ k3 =>
                      have H := HA.out
                      clear HA
                      simp only [laws_FnSgGrammar.l1] at H
                      by_cases c20 : x8_3 < (a0.size : Int)
                      · rw [if_pos c20] at H
                        have c20b0 : decide (x8_3 < (a0.size : Int)) = true := decide_eq_true c20
                        clear c20
                        by_cases c21 : ((rdOf ByteArray.empty x3_1 x4_1).size : Int) < 4
                        · rw [if_pos c21] at H
                          have c21b0 : decide (((rdOf ByteArray.empty x3_1 x4_1).size : Int) < 4) = true := decide_eq_true c21
                          have c21b1 : decide ((rdOf ByteArray.empty x3_1 x4_1).size < 4) = true := decide_eq_true (by omega)
                          clear c21
                          by_cases c22 : 0 ≤ x8_3
                          · rw [if_pos c22] at H
                            have c22b0 := eq_true c22
                            have c22b1 : decide (0 ≤ x8_3) = true := decide_eq_true c22
                            clear c22
                            by_cases c23 : x8_3 ≤ (wrap64 (x8_3 + 1))
                            · rw [if_pos c23] at H
                              have c23b0 := eq_true c23
                              have c23b1 : decide (x8_3 ≤ (wrap64 (x8_3 + 1))) = true := decide_eq_true c23
                              by_cases c24 : (wrap64 (x8_3 + 1)) ≤ (a0.size : Int)
                              · rw [if_pos c24] at H
                                have c24b0 := eq_true c24
                                have c24b1 : decide ((wrap64 (x8_3 + 1)) ≤ (a0.size : Int)) = true := decide_eq_true c24
                                by_cases c25 : (rdOf ByteArray.empty x3_1 x4_1).size + (a0.extract (x8_3 : Int).toNat ((wrap64 (x8_3 + 1)) : Int).toNat).size ≤ 9223372036854775807
                                · rw [if_pos c25] at H
                                  have c25b0 := eq_true c25
                                  have c25b1 : decide ((rdOf ByteArray.empty x3_1 x4_1).size + (a0.extract (x8_3 : Int).toNat ((wrap64 (x8_3 + 1)) : Int).toNat).size ≤ 9223372036854775807) = true := decide_eq_true c25
                                  try have c25b2 : (9223372036854775807 < (rdOf ByteArray.empty x3_1 x4_1).size + (a0.extract (x8_3 : Int).toNat ((wrap64 (x8_3 + 1)) : Int).toNat).size) = False := eq_false (Nat.not_lt.2 c25)
                                  try (have c25b3 := c25b2; simp only [ByteArray.size_append] at c25b3)
                                  by_cases c26 : x3_3.length < 8796093022208
                                  · rw [if_pos c26] at H
                                    have LMc26 := Aside0.mk c26
                                    clear c26
                                    obtain ⟨y209, hy209⟩ : ∃ y_ : List ByteArray, y_ = (x3_3 ++ [(rdOf ByteArray.empty x3_1 x4_1) ++ (a0.extract (x8_3 : Int).toNat ((wrap64 (x8_3 + 1)) : Int).toNat)]) := ⟨_, rfl⟩
                                    replace H : (laws_FnSgGrammar.l1 k3 a0 y209 x4_1 (rdOf ByteArray.empty x3_1 x4_1) (wrap64 (x8_3 + 1))) = some r := by first | (rw [hy209]; with_reducible exact H) | (have H2_ := (Option.bind_some _ _).symm.trans H; rw [hy209]; with_reducible exact H2_) | (have H2_ := (Option.bind_some _ _).symm.trans H; with_reducible exact H2_) | with_reducible exact H | (rw [hy209]; exact H) | exact H
                                    have Ny209 := Aside0.mk hy209
                                    clear hy209
                                    have H' := Aside0.mk H
                                    clear H
                                    go_wp2_with (first | ((with_reducible refine gate_builtin (b := .append) (xs := #[.tmp 51, .tmp 59]) rfl ?_); (try (refine gate_guard (by rfl) ?_; dsimp only)); at_builtin; refine Kd.R_append Kd.string (w0 := w) w.heap.size rfl (.tmp 51) (.tmp 59) 30 9 (.string ⟨#[]⟩) 16 rfl Try.underlying30 info9 rfl (by decide) (by omega) u3 x3_3 ((rdOf ByteArray.empty x3_1 x4_1) ++ (a0.extract (x8_3 : Int).toNat ((wrap64 (x8_3 + 1)) : Int).toNat)) [.string ((rdOf ByteArray.empty x3_1 x4_1) ++ (a0.extract (x8_3 : Int).toNat ((wrap64 (x8_3 + 1)) : Int).toNat))] (fun _ => True) (fun _ => False) rfl rfl ?aP (fun _ hk => hk.elim) ?aF ?aO ?aB ?aS ?aL ?_; (case aP => exact rfl); (case aB => exact (by repeat (first | (with_reducible first | exact HB.out | apply below_alloc | apply pw_below_drewN | apply below_drew1) | exact HB.out))); (case aF => exact (fun _ _ => trivial)); (case aO => exact (by (with_reducible repeat (first | apply Kd.R_alloc | apply Kd.R_drewN | apply Kd.R_drew)); exact HO_3.out)); (case aS => exact (below_size (by repeat (first | (with_reducible first | exact HB.out | apply below_alloc | apply pw_below_drewN | apply below_drew1) | exact HB.out)))); (case aL => have := LMc26.out; omega); intro v210 w27 ho hb hg hat; rw [← Ny209.out] at ho; have n0_ := Aside0.mk (hb); have n1_ := Aside0.mk (ho); clear HB; clear HO_3; have HB := n0_; have HO211 := n1_; clear n0_ n1_; clear ho hb hg hat))
                                    go_roundg k3
                                    case measure => have := HK1.out; have := HJ8.out; have := HK3.out; omega
                                    case rel => exact ⟨(y209), (wrap64 (x8_3 + 1)), (by first | rfl | (simp; done) | (simp [*]; done)), H', ⟨by have := HK1.out; have := HJ8.out; have := HK3.out; omega⟩, ⟨by (with_reducible repeat (first | apply Kd.R_alloc | apply Kd.R_drewN | apply Kd.R_drew)); exact HO211.out⟩, ⟨by repeat (first | (with_reducible first | exact HB.out | apply below_alloc | apply pw_below_drewN | apply below_drew1) | exact HB.out)⟩⟩
                                  · rw [if_neg c26] at H
                                    exact absurd H (by simp)
                                · rw [if_neg c25] at H
                                  exact absurd H (by simp)
                              · rw [if_neg c24] at H
                                exact absurd H (by simp)
                            · rw [if_neg c23] at H
                              exact absurd H (by simp)
                          · rw [if_neg c22] at H
                            exact absurd H (by simp)
                        · rw [if_neg c21] at H
                          have c21b0 : decide (((rdOf ByteArray.empty x3_1 x4_1).size : Int) < 4) = false := decide_eq_false c21
                          have c21b1 : decide ((rdOf ByteArray.empty x3_1 x4_1).size < 4) = false := decide_eq_false (by omega)
                          clear c21
                          have H' := Aside0.mk H
                          clear H
                          go_wp2
                          go_roundg k3
                          case measure => have := HK1.out; have := HJ8.out; have := HK3.out; omega
                          case rel => exact ⟨(x3_3), (wrap64 (x4_1 + 1)), (by first | rfl | (simp; done) | (simp [*]; done)), H', ⟨by have := HK1.out; have := HJ8.out; have := HK3.out; omega⟩, ⟨by (with_reducible repeat (first | apply Kd.R_alloc | apply Kd.R_drewN | apply Kd.R_drew)); exact HO_3.out⟩, ⟨by repeat (first | (with_reducible first | exact HB.out | apply below_alloc | apply pw_below_drewN | apply below_drew1) | exact HB.out)⟩⟩
                      · rw [if_neg c20] at H
                        have c20b0 : decide (x8_3 < (a0.size : Int)) = false := decide_eq_false c20
                        clear c20
                        have H' := Aside0.mk H
                        clear H
                        go_wp2
                        go_roundg k3
                        case measure => have := HK1.out; have := HJ8.out; have := HK3.out; omega
                        case rel => exact ⟨(x3_3), (wrap64 (x4_1 + 1)), (by first | rfl | (simp; done) | (simp [*]; done)), H', ⟨by have := HK1.out; have := HJ8.out; have := HK3.out; omega⟩, ⟨by (with_reducible repeat (first | apply Kd.R_alloc | apply Kd.R_drewN | apply Kd.R_drew)); exact HO_3.out⟩, ⟨by repeat (first | (with_reducible first | exact HB.out | apply below_alloc | apply pw_below_drewN | apply below_drew1) | exact HB.out)⟩⟩
            · rw [if_neg c7] at H
              exact absurd H (by simp)
          · rw [if_neg c6] at H
            have c6b0 : decide (x4_1 < (x3_1.length : Int)) = false := decide_eq_false c6
            clear c6
            replace H := Option.bind_eq_some_iff.mp H
            obtain ⟨⟨t202, t203⟩, A280, H⟩ := H
            replace H : (some t203) = some r := H
            have A28 := Aside0.mk A280
            clear A280
            obtain rfl := Option.some.inj H
            obtain ⟨Ao29, co29, eo29⟩ := Kd.R_slice HO_3.out
            subst eo29
            go_wp2_with (first | ((with_reducible refine gate_callee (f := 10) rfl ?_); refine goesL_ (some 62) rfl rfl Try.func10 (by kernel_rfl) rfl #[.string (⟨#[121]⟩ : ByteArray)] rfl (by (try simp only [List.map_toArray, List.map_cons, List.map_nil]); first | done | rfl | (simp only [List.length_drop, List.length_take]; rfl)) ?_; (with_reducible refine (impl_SgParse.calls k1 (⟨#[121]⟩ : ByteArray) t202 t203 _ A28.out).mono ?_); rintro e w30 ⟨rfl, hb⟩; refine ⟨_, rfl, ?_⟩; have n0_ := Aside0.mk (Kd.R_below (by (with_reducible repeat (first | apply Kd.R_alloc | apply Kd.R_drewN | apply Kd.R_drew)); exact HO_3.out) hb); have n1_ := Aside0.mk (below_step (by repeat (first | (with_reducible first | exact HB.out | apply below_alloc | apply pw_below_drewN | apply below_drew1) | exact HB.out)) hb); clear HO_3; clear HB; have HO_3 := n0_; have HB := n1_; clear n0_ n1_; (try clear hb); (try clear hb2); (try clear hk); (try clear hi)))
            go_ret
            exact ⟨by first | rfl | (simp [errW_none, errW_some] <;> rfl) | (simp [*, errW_none, errW_some] <;> rfl), by repeat (first | (with_reducible first | exact HB.out | apply below_alloc | apply pw_below_drewN | apply below_drew1) | exact HB.out)⟩

/-- THE ONE PURE STATEMENT of laws_FnSgGrammar: yours. -/
def laws_FnSgGrammar.Pure : Prop := ∀ (a0 : ByteArray), a0.size ≤ 140737488351232 → ∃ k, laws_FnSgGrammar.f k a0 = some true
theorem laws_FnSgGrammar.walk (P : laws_FnSgGrammar.Pure) (a0 : ByteArray) (w : World) (w0 : a0.size ≤ 140737488351232) :
    Calls Try.prog 5 #[.string a0] w fun e w' => e = .returned (.bool true) ∧ Below w.heap.size w w' := by
  obtain ⟨k, h⟩ := P a0 w0
  refine (laws_FnSgGrammar.calls k a0 true w h).mono ?_
  rintro e w' ⟨rfl, hd⟩
  exact ⟨rfl, hd⟩

end Go.Proofs.Ythhiijehdpchbaa.Q
