-- Written by a program of this session out of the translation; Lean checks it.
import Derived.Test.YtoldgnmgjpjapaaQ0
import Derived.Test.YtoldgnmgjpjapaaMt
namespace Go.Proofs.Ytoldgnmgjpjapaa.Q
open Go.RowKit Go.Proofs.Ytoldgnmgjpjapaa.Mt Go.Proofs.YtoldgnmgjpjapaaW.PrintWords Go.Proofs.YtoldgnmgjpjapaaW.PrintLast Go.Proofs.YtoldgnmgjpjapaaW.PrintMore
attribute [local go_sem] max2_int min2_int max_two min_two max_three min_three max_four min_four   -- for this text's walks alone
set_option linter.unusedVariables false
set_option linter.unusedSimpArgs false

-- BY HAND: function 10 (laws_zzFits4), in Derived.Test.YtoldgnmgjpjapaaMt

/-! ### laws_zzFits3: function 5 -/
def laws_zzFits3.l0 : Nat → List (S30) → Int → Int → Option (Bool)
  | 0, _, _, _ => none
  | k + 1, x8, x9, x10 => if x10 < x9 then (if 0 ≤ x10 then (if x10 < (x8.length : Int) then ((laws_zzFits4.f ((rd_T30 x8 x10).f0) ((rd_T30 x8 x10).f1)).bind fun t103 => (if t103 = true then (laws_zzFits3.l0 k x8 x9 (wrap64 (x10 + 1))) else (some false))) else (none)) else (none)) else (some true)
def laws_zzFits3.f (k : Nat) (l0 : List (S30)) : Option (Bool) := if (l0.length : Int) > 2147483647 then (some false) else (laws_zzFits3.l0 k l0 (l0.length : Int) 0)
theorem laws_zzFits3.mono_l : ∀ k, (∀ y0 y1 y2, LeO (laws_zzFits3.l0 k y0 y1 y2) (laws_zzFits3.l0 (k + 1) y0 y1 y2))
  | 0 => fun _ _ _ r h => by simp [laws_zzFits3.l0] at h
  | k + 1 => by
    have ih0 := laws_zzFits3.mono_l k
    · intro y0 y1 y2
      unfold laws_zzFits3.l0
      repeat' first
      | (with_reducible exact ih0 _ _ _)
      | (with_reducible exact LeO.refl _)
      | (with_reducible exact LeO.none _)
      | (with_reducible refine LeO.ite ?_ ?_)
      | (with_reducible refine LeO.bind ?_ (fun _ => ?_))
      | exact ih0 _ _ _
      | exact LeO.none _
      | refine LeO.ite ?_ ?_
      | refine LeO.bind ?_ (fun _ => ?_)
theorem laws_zzFits3.mono : ∀ a0 k, LeO (laws_zzFits3.f k a0) (laws_zzFits3.f (k + 1) a0) := by
  intro a0 k
  have ih0 := laws_zzFits3.mono_l k
  unfold laws_zzFits3.f
  repeat' first
      | (with_reducible exact ih0 _ _ _)
      | (with_reducible exact LeO.refl _)
      | (with_reducible exact LeO.none _)
      | (with_reducible refine LeO.ite ?_ ?_)
      | (with_reducible refine LeO.bind ?_ (fun _ => ?_))
      | exact ih0 _ _ _
      | exact LeO.none _
      | refine LeO.ite ?_ ?_
      | refine LeO.bind ?_ (fun _ => ?_)
set_option maxHeartbeats 8000000 in
set_option maxRecDepth 100000 in
theorem laws_zzFits3.calls (k : Nat) (A0 : Option Addr) (c0 : Nat) (l0 : List (S30)) (r : Bool) (w : World) (hr0 : Kd.C k30 w A0 l0.length l0) (hc0 : l0.length ≤ c0) (h : laws_zzFits3.f k l0 = some r) :
    Calls Try.prog 5 #[.slice A0 l0.length c0] w fun e w' => e = .returned (.bool r) ∧ Below w.heap.size w w' := by
  have hu30 := Try.underlying30
  have HR0 := Aside0.mk hr0
  have HC0 := Aside0.mk hc0
  clear hr0 hc0
  have HB := Aside0.mk (Below.refl w.heap.size w)
  have H : (if (l0.length : Int) > 2147483647 then (some false) else (laws_zzFits3.l0 k l0 (l0.length : Int) 0)) = some r := h
  clear h
  by_cases c2 : (l0.length : Int) > 2147483647
  · rw [if_pos c2] at H
    have c2b0 : decide (2147483647 < (l0.length : Int)) = true := decide_eq_true c2
    have c2b1 : decide (2147483647 < l0.length) = true := decide_eq_true (by omega)
    clear c2
    obtain rfl := Option.some.inj H
    go_enter Try.func5, Try.ntmps5
    go_wp2
    go_ret
    exact ⟨by first | rfl | (simp [errW_none, errW_some] <;> rfl) | (simp [*, errW_none, errW_some] <;> rfl), by repeat (first | (with_reducible first | exact HB.out | apply below_alloc | apply pw_below_drewN | apply below_drew1) | exact HB.out)⟩
  · rw [if_neg c2] at H
    have c2b0 : decide (2147483647 < (l0.length : Int)) = false := decide_eq_false c2
    have c2b1 : decide (2147483647 < l0.length) = false := decide_eq_false (by omega)
    clear c2
    have H' := Aside0.mk H
    clear H
    go_enter Try.func5, Try.ntmps5
    go_wp2
    go_loopg [10] k (fun kq v10 w' => ∃ (x10_1 : Int), v10 = .int .i64 x10_1 ∧ Aside0 (laws_zzFits3.l0 kq l0 (l0.length : Int) x10_1 = some r) ∧ Aside0 (kq ≤ k) ∧ Aside0 (Below w.heap.size w w'))
    case atStart => exact ⟨(0), (by first | rfl | (simp; done) | (simp [*]; done)), H', ⟨Nat.le_refl _⟩, ⟨by repeat (first | (with_reducible first | exact HB.out | apply below_alloc | apply pw_below_drewN | apply below_drew1) | exact HB.out)⟩⟩
    case round =>
      clear H'
      try clear c2
      try clear c2b0
      try clear c2b1
      try clear p2
      obtain ⟨x10_1, rfl, HA, HK1, HB⟩ := hrel
      cases gk with
      | zero => exact absurd HA.out (by simp [laws_zzFits3.l0])
      | succ k1 =>
        have H := HA.out
        clear HA
        simp only [laws_zzFits3.l0] at H
        by_cases c3 : x10_1 < (l0.length : Int)
        · rw [if_pos c3] at H
          have c3b0 : decide (x10_1 < (l0.length : Int)) = true := decide_eq_true c3
          clear c3
          by_cases c4 : 0 ≤ x10_1
          · rw [if_pos c4] at H
            have c4b0 : decide (0 ≤ x10_1) = true := decide_eq_true c4
            clear c4
            by_cases c5 : x10_1 < (l0.length : Int)
            · rw [if_pos c5] at H
              have c5b0 : decide (x10_1 < (l0.length : Int)) = true := decide_eq_true c5
              clear c5
              replace H := Option.bind_eq_some_iff.mp H
              obtain ⟨t103, A60, H⟩ := H
              replace H : (if t103 = true then (laws_zzFits3.l0 k1 l0 (l0.length : Int) (wrap64 (x10_1 + 1))) else (some false)) = some r := H
              have A6 := Aside0.mk A60
              clear A60
              by_cases c7 : t103 = true
              · subst c7
                have H1 : (laws_zzFits3.l0 k1 l0 (l0.length : Int) (wrap64 (x10_1 + 1))) = some r := by rw [if_pos rfl] at H; exact H
                clear H
                have H := H1
                clear H1
                have H' := Aside0.mk H
                clear H
                have p101 : 0 ≤ (x10_1 : Int) := of_decide_eq_true (by first | (with_reducible assumption) | assumption)
                have q101 : x10_1 < (l0.length : Int) := of_decide_eq_true (by first | (with_reducible assumption) | assumption)
                obtain ⟨ad101, e101, hx101_0, hx101_1⟩ := at_T30 HR0.out x10_1 p101 q101
                cases e101
                replace hx101_0 := (HB.out.cell (World.block_lt_of_cell? w _ hx101_0)).trans hx101_0
                replace hx101_1 := (HB.out.cell (World.block_lt_of_cell? w _ hx101_1)).trans hx101_1
                replace p101 := eq_true p101
                replace q101 := eq_true q101
                go_wp2_with (first | ((with_reducible refine gate_dst (N := 4) rfl ?_); refine box_event ?hg (N := 4) ?hd (cs := #[.string (⟨#[]⟩ : ByteArray), .string (⟨#[]⟩ : ByteArray)]) (t := 30) ?hr ?_; (case hd => rfl); (case hg => rfl); (case hr => first | (go_simp; done) | (go_simp; rfl)); intro gb102 hg w8 hbox hb; have n0_ := Aside0.mk (below_step (by repeat (first | (with_reducible first | exact HB.out | apply below_alloc | apply pw_below_drewN | apply below_drew1) | exact HB.out)) hb); have n1_ := Aside0.mk (hbox); have n2_ := Aside0.mk ((by rw [hg]; exact (below_size (by repeat (first | (with_reducible first | exact HB.out | apply below_alloc | apply pw_below_drewN | apply below_drew1) | exact HB.out))) : w.heap.size ≤ gb102)); have n3_ := Aside0.mk ((by rw [hg]; exact (below_size (by repeat (first | (with_reducible first | exact HB.out | apply below_alloc | apply pw_below_drewN | apply below_drew1) | exact HB.out))) : w.heap.size ≤ gb102)); clear HB; have HB := n0_; have BK102 := n1_; have GW102 := n2_; have GE102 := n3_; clear n0_ n1_ n2_ n3_; clear hb hbox hg; have hcz9_0 : w8.cell? ⟨gb102, 0, none⟩ = some (.string (⟨#[]⟩ : ByteArray)) := (blk_cell BK102.out 0).trans rfl; have hcz9_1 : w8.cell? ⟨gb102, 1, none⟩ = some (.string (⟨#[]⟩ : ByteArray)) := (blk_cell BK102.out 1).trans rfl; have hfz9_0 := blk_frozen BK102.out 0; have hfz9_1 := blk_frozen BK102.out 1) | ((with_reducible refine gate_callee (f := 10) rfl ?_); refine goesL_ (some 15) rfl rfl Try.func10 (by kernel_rfl) rfl #[.agg #[.string ((rd_T30 l0 x10_1).f0), .string ((rd_T30 l0 x10_1).f1)]] rfl (by (try simp only [List.map_toArray, List.map_cons, List.map_nil]); first | done | rfl | (simp only [List.length_drop, List.length_take]; rfl)) ?_; (with_reducible refine (laws_zzFits4.calls ((rd_T30 l0 x10_1).f0) ((rd_T30 l0 x10_1).f1) true _ A6.out).mono ?_); rintro e w10 ⟨rfl, hb⟩; refine ⟨_, rfl, ?_⟩; have n0_ := Aside0.mk (blk_below (g := gb102) (o := .cells #[.string ((rd_T30 l0 x10_1).f0), .string ((rd_T30 l0 x10_1).f1)] 30 (0, 0)) (by (with_reducible repeat (first | refine blk_drewN ?_ _ | refine blk_drew ?_ | refine blk_alloc ?_ _)); refine blk_put (cs := #[.string ((rd_T30 l0 x10_1).f0), .string (⟨#[]⟩ : ByteArray)]) ?_ 1 _ rfl; (with_reducible repeat (first | refine blk_drewN ?_ _ | refine blk_drew ?_ | refine blk_alloc ?_ _)); refine blk_put (cs := #[.string (⟨#[]⟩ : ByteArray), .string (⟨#[]⟩ : ByteArray)]) ?_ 0 _ rfl; (with_reducible repeat (first | refine blk_drewN ?_ _ | refine blk_drew ?_ | refine blk_alloc ?_ _)); exact BK102.out) hb); have n1_ := Aside0.mk (below_step (by repeat (first | (with_reducible first | exact HB.out | apply below_alloc | apply pw_below_drewN | apply below_drew1 | refine below_set ?_ GE102.out) | exact HB.out)) hb); clear BK102; clear HB; have BK102 := n0_; have HB := n1_; clear n0_ n1_; (try clear hb); (try clear hb2); (try clear hk); (try clear hi)))
                go_roundg k1
                case measure => have := HK1.out; omega
                case rel => exact ⟨(wrap64 (x10_1 + 1)), (by first | rfl | (simp; done) | (simp [*]; done)), H', ⟨by have := HK1.out; omega⟩, ⟨by repeat (first | (with_reducible first | exact HB.out | apply below_alloc | apply pw_below_drewN | apply below_drew1 | refine below_set ?_ GE102.out) | exact HB.out)⟩⟩
              · replace c7 := Bool.eq_false_iff.mpr c7
                subst c7
                have H1 : (some false) = some r := by rw [if_neg (show ¬ (false = true) by decide)] at H; exact H
                clear H
                have H := H1
                clear H1
                obtain rfl := Option.some.inj H
                have p101 : 0 ≤ (x10_1 : Int) := of_decide_eq_true (by first | (with_reducible assumption) | assumption)
                have q101 : x10_1 < (l0.length : Int) := of_decide_eq_true (by first | (with_reducible assumption) | assumption)
                obtain ⟨ad101, e101, hx101_0, hx101_1⟩ := at_T30 HR0.out x10_1 p101 q101
                cases e101
                replace hx101_0 := (HB.out.cell (World.block_lt_of_cell? w _ hx101_0)).trans hx101_0
                replace hx101_1 := (HB.out.cell (World.block_lt_of_cell? w _ hx101_1)).trans hx101_1
                replace p101 := eq_true p101
                replace q101 := eq_true q101
                go_wp2_with (first | ((with_reducible refine gate_dst (N := 4) rfl ?_); refine box_event ?hg (N := 4) ?hd (cs := #[.string (⟨#[]⟩ : ByteArray), .string (⟨#[]⟩ : ByteArray)]) (t := 30) ?hr ?_; (case hd => rfl); (case hg => rfl); (case hr => first | (go_simp; done) | (go_simp; rfl)); intro gb102 hg w11 hbox hb; have n0_ := Aside0.mk (below_step (by repeat (first | (with_reducible first | exact HB.out | apply below_alloc | apply pw_below_drewN | apply below_drew1) | exact HB.out)) hb); have n1_ := Aside0.mk (hbox); have n2_ := Aside0.mk ((by rw [hg]; exact (below_size (by repeat (first | (with_reducible first | exact HB.out | apply below_alloc | apply pw_below_drewN | apply below_drew1) | exact HB.out))) : w.heap.size ≤ gb102)); have n3_ := Aside0.mk ((by rw [hg]; exact (below_size (by repeat (first | (with_reducible first | exact HB.out | apply below_alloc | apply pw_below_drewN | apply below_drew1) | exact HB.out))) : w.heap.size ≤ gb102)); clear HB; have HB := n0_; have BK102 := n1_; have GW102 := n2_; have GE102 := n3_; clear n0_ n1_ n2_ n3_; clear hb hbox hg; have hcz12_0 : w11.cell? ⟨gb102, 0, none⟩ = some (.string (⟨#[]⟩ : ByteArray)) := (blk_cell BK102.out 0).trans rfl; have hcz12_1 : w11.cell? ⟨gb102, 1, none⟩ = some (.string (⟨#[]⟩ : ByteArray)) := (blk_cell BK102.out 1).trans rfl; have hfz12_0 := blk_frozen BK102.out 0; have hfz12_1 := blk_frozen BK102.out 1) | ((with_reducible refine gate_callee (f := 10) rfl ?_); refine goesL_ (some 15) rfl rfl Try.func10 (by kernel_rfl) rfl #[.agg #[.string ((rd_T30 l0 x10_1).f0), .string ((rd_T30 l0 x10_1).f1)]] rfl (by (try simp only [List.map_toArray, List.map_cons, List.map_nil]); first | done | rfl | (simp only [List.length_drop, List.length_take]; rfl)) ?_; (with_reducible refine (laws_zzFits4.calls ((rd_T30 l0 x10_1).f0) ((rd_T30 l0 x10_1).f1) false _ A6.out).mono ?_); rintro e w13 ⟨rfl, hb⟩; refine ⟨_, rfl, ?_⟩; have n0_ := Aside0.mk (blk_below (g := gb102) (o := .cells #[.string ((rd_T30 l0 x10_1).f0), .string ((rd_T30 l0 x10_1).f1)] 30 (0, 0)) (by (with_reducible repeat (first | refine blk_drewN ?_ _ | refine blk_drew ?_ | refine blk_alloc ?_ _)); refine blk_put (cs := #[.string ((rd_T30 l0 x10_1).f0), .string (⟨#[]⟩ : ByteArray)]) ?_ 1 _ rfl; (with_reducible repeat (first | refine blk_drewN ?_ _ | refine blk_drew ?_ | refine blk_alloc ?_ _)); refine blk_put (cs := #[.string (⟨#[]⟩ : ByteArray), .string (⟨#[]⟩ : ByteArray)]) ?_ 0 _ rfl; (with_reducible repeat (first | refine blk_drewN ?_ _ | refine blk_drew ?_ | refine blk_alloc ?_ _)); exact BK102.out) hb); have n1_ := Aside0.mk (below_step (by repeat (first | (with_reducible first | exact HB.out | apply below_alloc | apply pw_below_drewN | apply below_drew1 | refine below_set ?_ GE102.out) | exact HB.out)) hb); clear BK102; clear HB; have BK102 := n0_; have HB := n1_; clear n0_ n1_; (try clear hb); (try clear hb2); (try clear hk); (try clear hi)))
                go_ret
                exact ⟨by first | rfl | (simp [errW_none, errW_some] <;> rfl) | (simp [*, errW_none, errW_some] <;> rfl), by repeat (first | (with_reducible first | exact HB.out | apply below_alloc | apply pw_below_drewN | apply below_drew1 | refine below_set ?_ GE102.out) | exact HB.out)⟩
            · rw [if_neg c5] at H
              exact absurd H (by simp)
          · rw [if_neg c4] at H
            exact absurd H (by simp)
        · rw [if_neg c3] at H
          have c3b0 : decide (x10_1 < (l0.length : Int)) = false := decide_eq_false c3
          clear c3
          obtain rfl := Option.some.inj H
          go_wp2
          go_ret
          exact ⟨by first | rfl | (simp [errW_none, errW_some] <;> rfl) | (simp [*, errW_none, errW_some] <;> rfl), by repeat (first | (with_reducible first | exact HB.out | apply below_alloc | apply pw_below_drewN | apply below_drew1) | exact HB.out)⟩

/-! ### laws_mtPlain: function 6 -/
mutual
def laws_mtPlain.l0 : Nat → List (S30) → List (S30) → Int → Int → Option (Bool)
  | 0, _, _, _, _ => none
  | k + 1, x0, x7, x8, x9 => if x9 < x8 then (if 0 ≤ x9 then (if x9 < (x7.length : Int) then (if (((rd_T30 x7 x9).f0).size : Int) > 300 then (laws_mtPlain.j1 k x0 x7 x8 x9 true ((rd_T30 x7 x9).f0) ((rd_T30 x7 x9).f1)) else (laws_mtPlain.j1 k x0 x7 x8 x9 (decide ((((rd_T30 x7 x9).f1).size : Int) > 300)) ((rd_T30 x7 x9).f0) ((rd_T30 x7 x9).f1))) else (none)) else (none)) else (some (decide ((x0.length : Int) ≤ 40)))
def laws_mtPlain.j1 : Nat → List (S30) → List (S30) → Int → Int → Bool → ByteArray → ByteArray → Option (Bool)
  | 0, _, _, _, _, _, _, _ => none
  | k + 1, x0, x7, x8, x9, x22, x106000, x106001 => if x22 = true then (some false) else (laws_mtPlain.l1 k x0 0 x7 x8 x9 x106000 x106001)
def laws_mtPlain.l1 : Nat → List (S30) → Int → List (S30) → Int → Int → ByteArray → ByteArray → Option (Bool)
  | 0, _, _, _, _, _, _, _ => none
  | k + 1, x0, x5, x7, x8, x9, x106000, x106001 => if x5 < (x106000.size : Int) then (if 0 ≤ x5 then (if (bt x106000 x5) = 61 then (some false) else (if (bt x106000 x5) = 44 then (some false) else (if (bt x106000 x5) = 39 then (some false) else (laws_mtPlain.l1 k x0 (wrap64 (x5 + 1)) x7 x8 x9 x106000 x106001)))) else (none)) else (laws_mtPlain.l2 k x0 0 x7 x8 x9 x106000 x106001)
def laws_mtPlain.l2 : Nat → List (S30) → Int → List (S30) → Int → Int → ByteArray → ByteArray → Option (Bool)
  | 0, _, _, _, _, _, _, _ => none
  | k + 1, x0, x6, x7, x8, x9, x106000, x106001 => if x6 < (x106001.size : Int) then (if 0 ≤ x6 then (if (bt x106001 x6) = 39 then (some false) else (laws_mtPlain.l2 k x0 (wrap64 (x6 + 1)) x7 x8 x9 x106000 x106001)) else (none)) else (laws_mtPlain.l0 k x0 x7 x8 (wrap64 (x9 + 1)))
end
def laws_mtPlain.f (k : Nat) (l0 : List (S30)) : Option (Bool) := laws_mtPlain.l0 k l0 l0 (l0.length : Int) 0
theorem laws_mtPlain.mono_l : ∀ k, (∀ y0 y1 y2 y3, LeO (laws_mtPlain.l0 k y0 y1 y2 y3) (laws_mtPlain.l0 (k + 1) y0 y1 y2 y3)) ∧ (∀ y0 y1 y2 y3 y4 y5 y6, LeO (laws_mtPlain.j1 k y0 y1 y2 y3 y4 y5 y6) (laws_mtPlain.j1 (k + 1) y0 y1 y2 y3 y4 y5 y6)) ∧ (∀ y0 y1 y2 y3 y4 y5 y6, LeO (laws_mtPlain.l1 k y0 y1 y2 y3 y4 y5 y6) (laws_mtPlain.l1 (k + 1) y0 y1 y2 y3 y4 y5 y6)) ∧ (∀ y0 y1 y2 y3 y4 y5 y6, LeO (laws_mtPlain.l2 k y0 y1 y2 y3 y4 y5 y6) (laws_mtPlain.l2 (k + 1) y0 y1 y2 y3 y4 y5 y6))
  | 0 => ⟨fun _ _ _ _ r h => by simp [laws_mtPlain.l0] at h, fun _ _ _ _ _ _ _ r h => by simp [laws_mtPlain.j1] at h, fun _ _ _ _ _ _ _ r h => by simp [laws_mtPlain.l1] at h, fun _ _ _ _ _ _ _ r h => by simp [laws_mtPlain.l2] at h⟩
  | k + 1 => by
    obtain ⟨ih0, ih1, ih2, ih3⟩ := laws_mtPlain.mono_l k
    refine ⟨?_, ?_, ?_, ?_⟩
    · intro y0 y1 y2 y3
      unfold laws_mtPlain.l0
      repeat' first
      | (with_reducible exact ih0 _ _ _ _)
      | (with_reducible exact ih1 _ _ _ _ _ _ _)
      | (with_reducible exact ih2 _ _ _ _ _ _ _)
      | (with_reducible exact ih3 _ _ _ _ _ _ _)
      | (with_reducible exact LeO.refl _)
      | (with_reducible exact LeO.none _)
      | (with_reducible refine LeO.ite ?_ ?_)
      | (with_reducible refine LeO.bind ?_ (fun _ => ?_))
      | exact ih0 _ _ _ _
      | exact ih1 _ _ _ _ _ _ _
      | exact ih2 _ _ _ _ _ _ _
      | exact ih3 _ _ _ _ _ _ _
      | exact LeO.none _
      | refine LeO.ite ?_ ?_
      | refine LeO.bind ?_ (fun _ => ?_)
    · intro y0 y1 y2 y3 y4 y5 y6
      unfold laws_mtPlain.j1
      repeat' first
      | (with_reducible exact ih0 _ _ _ _)
      | (with_reducible exact ih1 _ _ _ _ _ _ _)
      | (with_reducible exact ih2 _ _ _ _ _ _ _)
      | (with_reducible exact ih3 _ _ _ _ _ _ _)
      | (with_reducible exact LeO.refl _)
      | (with_reducible exact LeO.none _)
      | (with_reducible refine LeO.ite ?_ ?_)
      | (with_reducible refine LeO.bind ?_ (fun _ => ?_))
      | exact ih0 _ _ _ _
      | exact ih1 _ _ _ _ _ _ _
      | exact ih2 _ _ _ _ _ _ _
      | exact ih3 _ _ _ _ _ _ _
      | exact LeO.none _
      | refine LeO.ite ?_ ?_
      | refine LeO.bind ?_ (fun _ => ?_)
    · intro y0 y1 y2 y3 y4 y5 y6
      unfold laws_mtPlain.l1
      repeat' first
      | (with_reducible exact ih0 _ _ _ _)
      | (with_reducible exact ih1 _ _ _ _ _ _ _)
      | (with_reducible exact ih2 _ _ _ _ _ _ _)
      | (with_reducible exact ih3 _ _ _ _ _ _ _)
      | (with_reducible exact LeO.refl _)
      | (with_reducible exact LeO.none _)
      | (with_reducible refine LeO.ite ?_ ?_)
      | (with_reducible refine LeO.bind ?_ (fun _ => ?_))
      | exact ih0 _ _ _ _
      | exact ih1 _ _ _ _ _ _ _
      | exact ih2 _ _ _ _ _ _ _
      | exact ih3 _ _ _ _ _ _ _
      | exact LeO.none _
      | refine LeO.ite ?_ ?_
      | refine LeO.bind ?_ (fun _ => ?_)
    · intro y0 y1 y2 y3 y4 y5 y6
      unfold laws_mtPlain.l2
      repeat' first
      | (with_reducible exact ih0 _ _ _ _)
      | (with_reducible exact ih1 _ _ _ _ _ _ _)
      | (with_reducible exact ih2 _ _ _ _ _ _ _)
      | (with_reducible exact ih3 _ _ _ _ _ _ _)
      | (with_reducible exact LeO.refl _)
      | (with_reducible exact LeO.none _)
      | (with_reducible refine LeO.ite ?_ ?_)
      | (with_reducible refine LeO.bind ?_ (fun _ => ?_))
      | exact ih0 _ _ _ _
      | exact ih1 _ _ _ _ _ _ _
      | exact ih2 _ _ _ _ _ _ _
      | exact ih3 _ _ _ _ _ _ _
      | exact LeO.none _
      | refine LeO.ite ?_ ?_
      | refine LeO.bind ?_ (fun _ => ?_)
theorem laws_mtPlain.mono : ∀ a0 k, LeO (laws_mtPlain.f k a0) (laws_mtPlain.f (k + 1) a0) := by
  intro a0 k
  obtain ⟨ih0, ih1, ih2, ih3⟩ := laws_mtPlain.mono_l k
  unfold laws_mtPlain.f
  repeat' first
      | (with_reducible exact ih0 _ _ _ _)
      | (with_reducible exact ih1 _ _ _ _ _ _ _)
      | (with_reducible exact ih2 _ _ _ _ _ _ _)
      | (with_reducible exact ih3 _ _ _ _ _ _ _)
      | (with_reducible exact LeO.refl _)
      | (with_reducible exact LeO.none _)
      | (with_reducible refine LeO.ite ?_ ?_)
      | (with_reducible refine LeO.bind ?_ (fun _ => ?_))
      | exact ih0 _ _ _ _
      | exact ih1 _ _ _ _ _ _ _
      | exact ih2 _ _ _ _ _ _ _
      | exact ih3 _ _ _ _ _ _ _
      | exact LeO.none _
      | refine LeO.ite ?_ ?_
      | refine LeO.bind ?_ (fun _ => ?_)
set_option maxHeartbeats 8000000 in
set_option maxRecDepth 100000 in
theorem laws_mtPlain.calls (k : Nat) (A0 : Option Addr) (c0 : Nat) (l0 : List (S30)) (r : Bool) (w : World) (hr0 : Kd.C k30 w A0 l0.length l0) (hc0 : l0.length ≤ c0) (h : laws_mtPlain.f k l0 = some r) :
    Calls Try.prog 6 #[.slice A0 l0.length c0] w fun e w' => e = .returned (.bool r) ∧ Below w.heap.size w w' := by
  have hu30 := Try.underlying30
  have HR0 := Aside0.mk hr0
  have HC0 := Aside0.mk hc0
  clear hr0 hc0
  have HB := Aside0.mk (Below.refl w.heap.size w)
  have H : (laws_mtPlain.l0 k l0 l0 (l0.length : Int) 0) = some r := h
  clear h
  have H' := Aside0.mk H
  clear H
  go_enter Try.func6, Try.ntmps6
  go_wp2
  go_loopg [9] k (fun kq v9 w' => ∃ (x9_1 : Int), v9 = .int .i64 x9_1 ∧ Aside0 (laws_mtPlain.l0 kq l0 l0 (l0.length : Int) x9_1 = some r) ∧ Aside0 (kq ≤ k) ∧ Aside0 (Below w.heap.size w w'))
  case atStart => exact ⟨(0), (by first | rfl | (simp; done) | (simp [*]; done)), H', ⟨Nat.le_refl _⟩, ⟨by repeat (first | (with_reducible first | exact HB.out | apply below_alloc | apply pw_below_drewN | apply below_drew1) | exact HB.out)⟩⟩
  case round =>
    clear H'
    obtain ⟨x9_1, rfl, HA, HK1, HB⟩ := hrel
    cases gk with
    | zero => exact absurd HA.out (by simp [laws_mtPlain.l0])
    | succ k1 =>
      have H := HA.out
      clear HA
      simp only [laws_mtPlain.l0] at H
      by_cases c2 : x9_1 < (l0.length : Int)
      · rw [if_pos c2] at H
        have c2b0 : decide (x9_1 < (l0.length : Int)) = true := decide_eq_true c2
        clear c2
        by_cases c3 : 0 ≤ x9_1
        · rw [if_pos c3] at H
          have c3b0 : decide (0 ≤ x9_1) = true := decide_eq_true c3
          clear c3
          by_cases c4 : x9_1 < (l0.length : Int)
          · rw [if_pos c4] at H
            have c4b0 : decide (x9_1 < (l0.length : Int)) = true := decide_eq_true c4
            clear c4
            have HC5 := Aside0.mk H
            clear H
            have p104 : 0 ≤ (x9_1 : Int) := of_decide_eq_true (by first | (with_reducible assumption) | assumption)
            have q104 : x9_1 < (l0.length : Int) := of_decide_eq_true (by first | (with_reducible assumption) | assumption)
            obtain ⟨ad104, e104, hx104_0, hx104_1⟩ := at_T30 HR0.out x9_1 p104 q104
            cases e104
            replace hx104_0 := (HB.out.cell (World.block_lt_of_cell? w _ hx104_0)).trans hx104_0
            replace hx104_1 := (HB.out.cell (World.block_lt_of_cell? w _ hx104_1)).trans hx104_1
            replace p104 := eq_true p104
            replace q104 := eq_true q104
            go_upto_region 4 with (first | ((with_reducible refine gate_dst (N := 4) rfl ?_); (try (refine gate_guard (by rfl) ?_; dsimp only)); refine box_event ?hg (N := 4) ?hd (cs := #[.string (⟨#[]⟩ : ByteArray), .string (⟨#[]⟩ : ByteArray)]) (t := 30) ?hr ?_; (case hd => rfl); (case hg => rfl); (case hr => first | (go_simp; done) | (go_simp; rfl)); intro gb105 hg w6 hbox hb; have n0_ := Aside0.mk (below_step (by repeat (first | (with_reducible first | exact HB.out | apply below_alloc | apply pw_below_drewN | apply below_drew1) | exact HB.out)) hb); have n1_ := Aside0.mk (hbox); have n2_ := Aside0.mk ((by rw [hg]; exact (below_size (by repeat (first | (with_reducible first | exact HB.out | apply below_alloc | apply pw_below_drewN | apply below_drew1) | exact HB.out))) : w.heap.size ≤ gb105)); have n3_ := Aside0.mk ((by rw [hg]; exact (below_size (by repeat (first | (with_reducible first | exact HB.out | apply below_alloc | apply pw_below_drewN | apply below_drew1) | exact HB.out))) : w.heap.size ≤ gb105)); clear HB; have HB := n0_; have BK105 := n1_; have GW105 := n2_; have GE105 := n3_; clear n0_ n1_ n2_ n3_; clear hb hbox hg; have hcz7_0 : w6.cell? ⟨gb105, 0, none⟩ = some (.string (⟨#[]⟩ : ByteArray)) := (blk_cell BK105.out 0).trans rfl; have hcz7_1 : w6.cell? ⟨gb105, 1, none⟩ = some (.string (⟨#[]⟩ : ByteArray)) := (blk_cell BK105.out 1).trans rfl; have hfz7_0 := blk_frozen BK105.out 0; have hfz7_1 := blk_frozen BK105.out 1))
            (try simp only [Act.put, List.setIfInBounds_toArray, List.set_cons_zero, List.set_cons_succ])
            go_cut [22] (fun v22 wc => ∃ (kq : Nat) (x22_4 : Bool), v22 = .bool x22_4 ∧ Aside0 (laws_mtPlain.j1 kq l0 l0 (l0.length : Int) x9_1 x22_4 ((rd_T30 l0 x9_1).f0) ((rd_T30 l0 x9_1).f1) = some r) ∧ Aside0 (kq ≤ k1) ∧ Aside0 (wc.heap[gb105]? = some (.cells #[.string ((rd_T30 l0 x9_1).f0), .string ((rd_T30 l0 x9_1).f1)] 30 (0, 0))) ∧ Aside0 (Below w.heap.size w wc))
            case first =>
              have H := HC5.out
              clear HC5
              by_cases c8 : (((rd_T30 l0 x9_1).f0).size : Int) > 300
              · rw [if_pos c8] at H
                have c8b0 : decide (300 < (((rd_T30 l0 x9_1).f0).size : Int)) = true := decide_eq_true c8
                have c8b1 : decide (300 < ((rd_T30 l0 x9_1).f0).size) = true := decide_eq_true (by omega)
                clear c8
                (first | rw [c8b0] | (simp only [i64_w, i32_w]; rw [c8b0]) | skip)
                have H' := Aside0.mk H
                clear H
                have hcz9_0 : w6.cell? ⟨gb105, 0, none⟩ = some (.string (⟨#[]⟩ : ByteArray)) := (blk_cell BK105.out 0).trans rfl
                have hcz9_1 : w6.cell? ⟨gb105, 1, none⟩ = some (.string (⟨#[]⟩ : ByteArray)) := (blk_cell BK105.out 1).trans rfl
                have hfz9_0 := blk_frozen BK105.out 0
                have hfz9_1 := blk_frozen BK105.out 1
                go_wp2
                go_meet
                case rel => exact ⟨_, (true), (by first | rfl | (simp; done) | (simp [*]; done)), H', ⟨by have := HK1.out; first | omega | exact Nat.le_refl _⟩, ⟨by (with_reducible repeat (first | refine blk_drewN ?_ _ | refine blk_drew ?_ | refine blk_alloc ?_ _)); refine blk_put (cs := #[.string ((rd_T30 l0 x9_1).f0), .string (⟨#[]⟩ : ByteArray)]) ?_ 1 _ rfl; (with_reducible repeat (first | refine blk_drewN ?_ _ | refine blk_drew ?_ | refine blk_alloc ?_ _)); refine blk_put (cs := #[.string (⟨#[]⟩ : ByteArray), .string (⟨#[]⟩ : ByteArray)]) ?_ 0 _ rfl; (with_reducible repeat (first | refine blk_drewN ?_ _ | refine blk_drew ?_ | refine blk_alloc ?_ _)); exact BK105.out⟩, ⟨by repeat (first | (with_reducible first | exact HB.out | apply below_alloc | apply pw_below_drewN | apply below_drew1 | refine below_set ?_ GE105.out) | exact HB.out)⟩⟩
              · rw [if_neg c8] at H
                have c8b0 : decide (300 < (((rd_T30 l0 x9_1).f0).size : Int)) = false := decide_eq_false c8
                have c8b1 : decide (300 < ((rd_T30 l0 x9_1).f0).size) = false := decide_eq_false (by omega)
                clear c8
                (first | rw [c8b0] | (simp only [i64_w, i32_w]; rw [c8b0]) | skip)
                have H' := Aside0.mk H
                clear H
                have hcz10_0 : w6.cell? ⟨gb105, 0, none⟩ = some (.string (⟨#[]⟩ : ByteArray)) := (blk_cell BK105.out 0).trans rfl
                have hcz10_1 : w6.cell? ⟨gb105, 1, none⟩ = some (.string (⟨#[]⟩ : ByteArray)) := (blk_cell BK105.out 1).trans rfl
                have hfz10_0 := blk_frozen BK105.out 0
                have hfz10_1 := blk_frozen BK105.out 1
                go_wp2
                go_meet
                case rel => exact ⟨_, (decide ((((rd_T30 l0 x9_1).f1).size : Int) > 300)), (by first | rfl | (simp; done) | (simp [*]; done)), H', ⟨by have := HK1.out; first | omega | exact Nat.le_refl _⟩, ⟨by (with_reducible repeat (first | refine blk_drewN ?_ _ | refine blk_drew ?_ | refine blk_alloc ?_ _)); refine blk_put (cs := #[.string ((rd_T30 l0 x9_1).f0), .string (⟨#[]⟩ : ByteArray)]) ?_ 1 _ rfl; (with_reducible repeat (first | refine blk_drewN ?_ _ | refine blk_drew ?_ | refine blk_alloc ?_ _)); refine blk_put (cs := #[.string (⟨#[]⟩ : ByteArray), .string (⟨#[]⟩ : ByteArray)]) ?_ 0 _ rfl; (with_reducible repeat (first | refine blk_drewN ?_ _ | refine blk_drew ?_ | refine blk_alloc ?_ _)); exact BK105.out⟩, ⟨by repeat (first | (with_reducible first | exact HB.out | apply below_alloc | apply pw_below_drewN | apply below_drew1 | refine below_set ?_ GE105.out) | exact HB.out)⟩⟩
            case rest =>
              clear HC5
              try clear p1
              try clear q1
              try clear hx1
              try clear c2
              try clear c2b0
              try clear p2
              try clear c3
              try clear c3b0
              try clear c4
              try clear c4b0
              try clear c6
              try clear c8
              try clear c8b0
              try clear c8b1
              try clear p10
              try clear q10
              try clear hx10
              try clear hcz10_0
              try clear hcz10_1
              try clear hcz7_0
              try clear hcz7_1
              try clear hcz9_0
              try clear hcz9_1
              try clear hfz10_0
              try clear hfz10_1
              try clear hfz7_0
              try clear hfz7_1
              try clear hfz9_0
              try clear hfz9_1
              try clear hx104_0
              try clear hx104_1
              try clear p104
              try clear q104
              obtain ⟨kq, x22_4, rfl, HA, HJ4, BK105, HB⟩ := hcut
              cases kq with
              | zero => exact absurd HA.out (by simp [laws_mtPlain.j1])
              | succ kj4 =>
                have H := HA.out
                clear HA
                simp only [laws_mtPlain.j1] at H
                by_cases c11 : x22_4 = true
                · subst c11
                  have H1 : (some false) = some r := by rw [if_pos rfl] at H; exact H
                  clear H
                  have H := H1
                  clear H1
                  obtain rfl := Option.some.inj H
                  go_wp2
                  go_ret
                  exact ⟨by first | rfl | (simp [errW_none, errW_some] <;> rfl) | (simp [*, errW_none, errW_some] <;> rfl), by repeat (first | (with_reducible first | exact HB.out | apply below_alloc | apply pw_below_drewN | apply below_drew1 | refine below_set ?_ GE105.out) | exact HB.out)⟩
                · replace c11 := Bool.eq_false_iff.mpr c11
                  subst c11
                  have H1 : (laws_mtPlain.l1 kj4 l0 0 l0 (l0.length : Int) x9_1 ((rd_T30 l0 x9_1).f0) ((rd_T30 l0 x9_1).f1)) = some r := by rw [if_neg (show ¬ (false = true) by decide)] at H; exact H
                  clear H
                  have H := H1
                  clear H1
                  have H' := Aside0.mk H
                  clear H
                  go_wp2
                  go_loopg [5] kj4 (fun kq v5 w' => ∃ (x5_3 : Int), v5 = .int .i64 x5_3 ∧ Aside0 (laws_mtPlain.l1 kq l0 x5_3 l0 (l0.length : Int) x9_1 ((rd_T30 l0 x9_1).f0) ((rd_T30 l0 x9_1).f1) = some r) ∧ Aside0 (kq ≤ kj4) ∧ Aside0 (w'.heap[gb105]? = some (.cells #[.string ((rd_T30 l0 x9_1).f0), .string ((rd_T30 l0 x9_1).f1)] 30 (0, 0))) ∧ Aside0 (Below w.heap.size w w'))
                  case atStart => exact ⟨(0), (by first | rfl | (simp; done) | (simp [*]; done)), H', ⟨Nat.le_refl _⟩, ⟨by (with_reducible repeat (first | refine blk_drewN ?_ _ | refine blk_drew ?_ | refine blk_alloc ?_ _)); exact BK105.out⟩, ⟨by repeat (first | (with_reducible first | exact HB.out | apply below_alloc | apply pw_below_drewN | apply below_drew1 | refine below_set ?_ GE105.out) | exact HB.out)⟩⟩
                  case round =>
                    clear H'
                    try clear c1
                    try clear p1
                    try clear q1
                    try clear hx1
                    try clear c2
                    try clear c2b0
                    try clear p2
                    try clear c3
                    try clear c3b0
                    try clear c4
                    try clear c4b0
                    try clear c6
                    try clear c8
                    try clear c8b0
                    try clear c8b1
                    try clear p10
                    try clear q10
                    try clear hx10
                    try clear c11
                    try clear hcz10_0
                    try clear hcz10_1
                    try clear hcz7_0
                    try clear hcz7_1
                    try clear hcz9_0
                    try clear hcz9_1
                    try clear hfz10_0
                    try clear hfz10_1
                    try clear hfz7_0
                    try clear hfz7_1
                    try clear hfz9_0
                    try clear hfz9_1
                    try clear hx104_0
                    try clear hx104_1
                    try clear p1
                    try clear p10
                    try clear p104
                    try clear p2
                    try clear q1
                    try clear q10
                    try clear q104
                    obtain ⟨x5_3, rfl, HA, HK3, BK105, HB⟩ := hrel
                    cases gk with
                    | zero => exact absurd HA.out (by simp [laws_mtPlain.l1])
                    | succ k3 =>
                      have H := HA.out
                      clear HA
                      simp only [laws_mtPlain.l1] at H
                      by_cases c12 : x5_3 < (((rd_T30 l0 x9_1).f0).size : Int)
                      · rw [if_pos c12] at H
                        have c12b0 : decide (x5_3 < (((rd_T30 l0 x9_1).f0).size : Int)) = true := decide_eq_true c12
                        clear c12
                        by_cases c13 : 0 ≤ x5_3
                        · rw [if_pos c13] at H
                          have c13b0 : decide (0 ≤ x5_3) = true := decide_eq_true c13
                          clear c13
                          by_cases c15 : (bt ((rd_T30 l0 x9_1).f0) x5_3) = 61
                          · rw [if_pos c15] at H
                            have c15b0 : ((bt ((rd_T30 l0 x9_1).f0) x5_3) == 61) = true := beq_iff_eq.mpr c15
                            have c15b1 : ((bt ((rd_T30 l0 x9_1).f0) x5_3) != 61) = false := bne_eq_false_iff_eq.mpr c15
                            clear c15
                            obtain rfl := Option.some.inj H
                            have hcz16_0 : wr.cell? ⟨gb105, 0, none⟩ = some (.string ((rd_T30 l0 x9_1).f0)) := (blk_cell BK105.out 0).trans rfl
                            have hcz16_1 : wr.cell? ⟨gb105, 1, none⟩ = some (.string ((rd_T30 l0 x9_1).f1)) := (blk_cell BK105.out 1).trans rfl
                            have hfz16_0 := blk_frozen BK105.out 0
                            have hfz16_1 := blk_frozen BK105.out 1
                            have p14 : 0 ≤ (x5_3 : Int) := of_decide_eq_true (by first | (with_reducible assumption) | assumption)
                            have q14 : x5_3 < (((rd_T30 l0 x9_1).f0).size : Int) := of_decide_eq_true (by first | (with_reducible assumption) | assumption)
                            have hx14 := bt_at ((rd_T30 l0 x9_1).f0) x5_3
                            replace p14 := eq_true p14
                            replace q14 := eq_true q14
                            go_wp2
                            go_ret
                            exact ⟨by first | rfl | (simp [errW_none, errW_some] <;> rfl) | (simp [*, errW_none, errW_some] <;> rfl), by repeat (first | (with_reducible first | exact HB.out | apply below_alloc | apply pw_below_drewN | apply below_drew1 | refine below_set ?_ GE105.out) | exact HB.out)⟩
                          · rw [if_neg c15] at H
                            have c15b0 : ((bt ((rd_T30 l0 x9_1).f0) x5_3) == 61) = false := beq_eq_false_iff_ne.mpr c15
                            have c15b1 : ((bt ((rd_T30 l0 x9_1).f0) x5_3) != 61) = true := bne_iff_ne.mpr c15
                            by_cases c18 : (bt ((rd_T30 l0 x9_1).f0) x5_3) = 44
                            · rw [if_pos c18] at H
                              have c18b0 : ((bt ((rd_T30 l0 x9_1).f0) x5_3) == 44) = true := beq_iff_eq.mpr c18
                              have c18b1 : ((bt ((rd_T30 l0 x9_1).f0) x5_3) != 44) = false := bne_eq_false_iff_eq.mpr c18
                              clear c18
                              obtain rfl := Option.some.inj H
                              have hcz19_0 : wr.cell? ⟨gb105, 0, none⟩ = some (.string ((rd_T30 l0 x9_1).f0)) := (blk_cell BK105.out 0).trans rfl
                              have hcz19_1 : wr.cell? ⟨gb105, 1, none⟩ = some (.string ((rd_T30 l0 x9_1).f1)) := (blk_cell BK105.out 1).trans rfl
                              have hfz19_0 := blk_frozen BK105.out 0
                              have hfz19_1 := blk_frozen BK105.out 1
                              have p14 : 0 ≤ (x5_3 : Int) := of_decide_eq_true (by first | (with_reducible assumption) | assumption)
                              have q14 : x5_3 < (((rd_T30 l0 x9_1).f0).size : Int) := of_decide_eq_true (by first | (with_reducible assumption) | assumption)
                              have hx14 := bt_at ((rd_T30 l0 x9_1).f0) x5_3
                              replace p14 := eq_true p14
                              replace q14 := eq_true q14
                              have p17 : 0 ≤ (x5_3 : Int) := of_decide_eq_true (by first | (with_reducible assumption) | assumption)
                              have q17 : x5_3 < (((rd_T30 l0 x9_1).f0).size : Int) := of_decide_eq_true (by first | (with_reducible assumption) | assumption)
                              have hx17 := bt_at ((rd_T30 l0 x9_1).f0) x5_3
                              replace p17 := eq_true p17
                              replace q17 := eq_true q17
                              go_wp2
                              go_ret
                              exact ⟨by first | rfl | (simp [errW_none, errW_some] <;> rfl) | (simp [*, errW_none, errW_some] <;> rfl), by repeat (first | (with_reducible first | exact HB.out | apply below_alloc | apply pw_below_drewN | apply below_drew1 | refine below_set ?_ GE105.out) | exact HB.out)⟩
                            · rw [if_neg c18] at H
                              have c18b0 : ((bt ((rd_T30 l0 x9_1).f0) x5_3) == 44) = false := beq_eq_false_iff_ne.mpr c18
                              have c18b1 : ((bt ((rd_T30 l0 x9_1).f0) x5_3) != 44) = true := bne_iff_ne.mpr c18
                              by_cases c21 : (bt ((rd_T30 l0 x9_1).f0) x5_3) = 39
                              · rw [if_pos c21] at H
                                have c21b0 : ((bt ((rd_T30 l0 x9_1).f0) x5_3) == 39) = true := beq_iff_eq.mpr c21
                                have c21b1 : ((bt ((rd_T30 l0 x9_1).f0) x5_3) != 39) = false := bne_eq_false_iff_eq.mpr c21
                                clear c21
                                obtain rfl := Option.some.inj H
                                have hcz22_0 : wr.cell? ⟨gb105, 0, none⟩ = some (.string ((rd_T30 l0 x9_1).f0)) := (blk_cell BK105.out 0).trans rfl
                                have hcz22_1 : wr.cell? ⟨gb105, 1, none⟩ = some (.string ((rd_T30 l0 x9_1).f1)) := (blk_cell BK105.out 1).trans rfl
                                have hfz22_0 := blk_frozen BK105.out 0
                                have hfz22_1 := blk_frozen BK105.out 1
                                have p14 : 0 ≤ (x5_3 : Int) := of_decide_eq_true (by first | (with_reducible assumption) | assumption)
                                have q14 : x5_3 < (((rd_T30 l0 x9_1).f0).size : Int) := of_decide_eq_true (by first | (with_reducible assumption) | assumption)
                                have hx14 := bt_at ((rd_T30 l0 x9_1).f0) x5_3
                                replace p14 := eq_true p14
                                replace q14 := eq_true q14
                                have p17 : 0 ≤ (x5_3 : Int) := of_decide_eq_true (by first | (with_reducible assumption) | assumption)
                                have q17 : x5_3 < (((rd_T30 l0 x9_1).f0).size : Int) := of_decide_eq_true (by first | (with_reducible assumption) | assumption)
                                have hx17 := bt_at ((rd_T30 l0 x9_1).f0) x5_3
                                replace p17 := eq_true p17
                                replace q17 := eq_true q17
                                have p20 : 0 ≤ (x5_3 : Int) := of_decide_eq_true (by first | (with_reducible assumption) | assumption)
                                have q20 : x5_3 < (((rd_T30 l0 x9_1).f0).size : Int) := of_decide_eq_true (by first | (with_reducible assumption) | assumption)
                                have hx20 := bt_at ((rd_T30 l0 x9_1).f0) x5_3
                                replace p20 := eq_true p20
                                replace q20 := eq_true q20
                                go_wp2
                                go_ret
                                exact ⟨by first | rfl | (simp [errW_none, errW_some] <;> rfl) | (simp [*, errW_none, errW_some] <;> rfl), by repeat (first | (with_reducible first | exact HB.out | apply below_alloc | apply pw_below_drewN | apply below_drew1 | refine below_set ?_ GE105.out) | exact HB.out)⟩
                              · rw [if_neg c21] at H
                                have c21b0 : ((bt ((rd_T30 l0 x9_1).f0) x5_3) == 39) = false := beq_eq_false_iff_ne.mpr c21
                                have c21b1 : ((bt ((rd_T30 l0 x9_1).f0) x5_3) != 39) = true := bne_iff_ne.mpr c21
                                have H' := Aside0.mk H
                                clear H
                                have hcz23_0 : wr.cell? ⟨gb105, 0, none⟩ = some (.string ((rd_T30 l0 x9_1).f0)) := (blk_cell BK105.out 0).trans rfl
                                have hcz23_1 : wr.cell? ⟨gb105, 1, none⟩ = some (.string ((rd_T30 l0 x9_1).f1)) := (blk_cell BK105.out 1).trans rfl
                                have hfz23_0 := blk_frozen BK105.out 0
                                have hfz23_1 := blk_frozen BK105.out 1
                                have p14 : 0 ≤ (x5_3 : Int) := of_decide_eq_true (by first | (with_reducible assumption) | assumption)
                                have q14 : x5_3 < (((rd_T30 l0 x9_1).f0).size : Int) := of_decide_eq_true (by first | (with_reducible assumption) | assumption)
                                have hx14 := bt_at ((rd_T30 l0 x9_1).f0) x5_3
                                replace p14 := eq_true p14
                                replace q14 := eq_true q14
                                have p17 : 0 ≤ (x5_3 : Int) := of_decide_eq_true (by first | (with_reducible assumption) | assumption)
                                have q17 : x5_3 < (((rd_T30 l0 x9_1).f0).size : Int) := of_decide_eq_true (by first | (with_reducible assumption) | assumption)
                                have hx17 := bt_at ((rd_T30 l0 x9_1).f0) x5_3
                                replace p17 := eq_true p17
                                replace q17 := eq_true q17
                                have p20 : 0 ≤ (x5_3 : Int) := of_decide_eq_true (by first | (with_reducible assumption) | assumption)
                                have q20 : x5_3 < (((rd_T30 l0 x9_1).f0).size : Int) := of_decide_eq_true (by first | (with_reducible assumption) | assumption)
                                have hx20 := bt_at ((rd_T30 l0 x9_1).f0) x5_3
                                replace p20 := eq_true p20
                                replace q20 := eq_true q20
                                go_wp2
                                go_roundg k3
                                case measure => have := HK1.out; have := HJ4.out; have := HK3.out; omega
                                case rel => exact ⟨(wrap64 (x5_3 + 1)), (by first | rfl | (simp; done) | (simp [*]; done)), H', ⟨by have := HK1.out; have := HJ4.out; have := HK3.out; omega⟩, ⟨by (with_reducible repeat (first | refine blk_drewN ?_ _ | refine blk_drew ?_ | refine blk_alloc ?_ _)); exact BK105.out⟩, ⟨by repeat (first | (with_reducible first | exact HB.out | apply below_alloc | apply pw_below_drewN | apply below_drew1 | refine below_set ?_ GE105.out) | exact HB.out)⟩⟩
                        · rw [if_neg c13] at H
                          exact absurd H (by simp)
                      · rw [if_neg c12] at H
                        have c12b0 : decide (x5_3 < (((rd_T30 l0 x9_1).f0).size : Int)) = false := decide_eq_false c12
                        clear c12
                        have H' := Aside0.mk H
                        clear H
                        have hcz24_0 : wr.cell? ⟨gb105, 0, none⟩ = some (.string ((rd_T30 l0 x9_1).f0)) := (blk_cell BK105.out 0).trans rfl
                        have hcz24_1 : wr.cell? ⟨gb105, 1, none⟩ = some (.string ((rd_T30 l0 x9_1).f1)) := (blk_cell BK105.out 1).trans rfl
                        have hfz24_0 := blk_frozen BK105.out 0
                        have hfz24_1 := blk_frozen BK105.out 1
                        go_wp2
                        go_loopg [6] k3 (fun kq v6 w' => ∃ (x6_4 : Int), v6 = .int .i64 x6_4 ∧ Aside0 (laws_mtPlain.l2 kq l0 x6_4 l0 (l0.length : Int) x9_1 ((rd_T30 l0 x9_1).f0) ((rd_T30 l0 x9_1).f1) = some r) ∧ Aside0 (kq ≤ k3) ∧ Aside0 (w'.heap[gb105]? = some (.cells #[.string ((rd_T30 l0 x9_1).f0), .string ((rd_T30 l0 x9_1).f1)] 30 (0, 0))) ∧ Aside0 (Below w.heap.size w w'))
                        case atStart => exact ⟨(0), (by first | rfl | (simp; done) | (simp [*]; done)), H', ⟨Nat.le_refl _⟩, ⟨by (with_reducible repeat (first | refine blk_drewN ?_ _ | refine blk_drew ?_ | refine blk_alloc ?_ _)); exact BK105.out⟩, ⟨by repeat (first | (with_reducible first | exact HB.out | apply below_alloc | apply pw_below_drewN | apply below_drew1 | refine below_set ?_ GE105.out) | exact HB.out)⟩⟩
                        case round =>
                          clear H'
                          try clear c1
                          try clear p1
                          try clear q1
                          try clear hx1
                          try clear c2
                          try clear c2b0
                          try clear p2
                          try clear q2
                          try clear hx2
                          try clear c3
                          try clear c3b0
                          try clear c4
                          try clear c4b0
                          try clear c6
                          try clear p6
                          try clear c8
                          try clear c8b0
                          try clear c8b1
                          try clear p10
                          try clear q10
                          try clear hx10
                          try clear c11
                          try clear c12
                          try clear c12b0
                          try clear c13
                          try clear c13b0
                          try clear p14
                          try clear q14
                          try clear hx14
                          try clear c15
                          try clear c15b0
                          try clear c15b1
                          try clear p17
                          try clear q17
                          try clear hx17
                          try clear c18
                          try clear c18b0
                          try clear c18b1
                          try clear p20
                          try clear q20
                          try clear hx20
                          try clear c21
                          try clear c21b0
                          try clear c21b1
                          try clear hcz10_0
                          try clear hcz10_1
                          try clear hcz16_0
                          try clear hcz16_1
                          try clear hcz19_0
                          try clear hcz19_1
                          try clear hcz22_0
                          try clear hcz22_1
                          try clear hcz23_0
                          try clear hcz23_1
                          try clear hcz24_0
                          try clear hcz24_1
                          try clear hcz7_0
                          try clear hcz7_1
                          try clear hcz9_0
                          try clear hcz9_1
                          try clear hfz10_0
                          try clear hfz10_1
                          try clear hfz16_0
                          try clear hfz16_1
                          try clear hfz19_0
                          try clear hfz19_1
                          try clear hfz22_0
                          try clear hfz22_1
                          try clear hfz23_0
                          try clear hfz23_1
                          try clear hfz24_0
                          try clear hfz24_1
                          try clear hfz7_0
                          try clear hfz7_1
                          try clear hfz9_0
                          try clear hfz9_1
                          try clear hx104_0
                          try clear hx104_1
                          try clear p1
                          try clear p10
                          try clear p104
                          try clear p14
                          try clear p17
                          try clear p2
                          try clear p20
                          try clear q1
                          try clear q10
                          try clear q104
                          try clear q14
                          try clear q17
                          try clear q20
                          obtain ⟨x6_4, rfl, HA, HK4, BK105, HB⟩ := hrel
                          cases gk with
                          | zero => exact absurd HA.out (by simp [laws_mtPlain.l2])
                          | succ k4 =>
                            have H := HA.out
                            clear HA
                            simp only [laws_mtPlain.l2] at H
                            by_cases c25 : x6_4 < (((rd_T30 l0 x9_1).f1).size : Int)
                            · rw [if_pos c25] at H
                              have c25b0 : decide (x6_4 < (((rd_T30 l0 x9_1).f1).size : Int)) = true := decide_eq_true c25
                              clear c25
                              by_cases c26 : 0 ≤ x6_4
                              · rw [if_pos c26] at H
                                have c26b0 : decide (0 ≤ x6_4) = true := decide_eq_true c26
                                clear c26
                                by_cases c28 : (bt ((rd_T30 l0 x9_1).f1) x6_4) = 39
                                · rw [if_pos c28] at H
                                  have c28b0 : ((bt ((rd_T30 l0 x9_1).f1) x6_4) == 39) = true := beq_iff_eq.mpr c28
                                  have c28b1 : ((bt ((rd_T30 l0 x9_1).f1) x6_4) != 39) = false := bne_eq_false_iff_eq.mpr c28
                                  clear c28
                                  obtain rfl := Option.some.inj H
                                  have hcz29_0 : wr.cell? ⟨gb105, 0, none⟩ = some (.string ((rd_T30 l0 x9_1).f0)) := (blk_cell BK105.out 0).trans rfl
                                  have hcz29_1 : wr.cell? ⟨gb105, 1, none⟩ = some (.string ((rd_T30 l0 x9_1).f1)) := (blk_cell BK105.out 1).trans rfl
                                  have hfz29_0 := blk_frozen BK105.out 0
                                  have hfz29_1 := blk_frozen BK105.out 1
                                  have p27 : 0 ≤ (x6_4 : Int) := of_decide_eq_true (by first | (with_reducible assumption) | assumption)
                                  have q27 : x6_4 < (((rd_T30 l0 x9_1).f1).size : Int) := of_decide_eq_true (by first | (with_reducible assumption) | assumption)
                                  have hx27 := bt_at ((rd_T30 l0 x9_1).f1) x6_4
                                  replace p27 := eq_true p27
                                  replace q27 := eq_true q27
                                  go_wp2
                                  go_ret
                                  exact ⟨by first | rfl | (simp [errW_none, errW_some] <;> rfl) | (simp [*, errW_none, errW_some] <;> rfl), by repeat (first | (with_reducible first | exact HB.out | apply below_alloc | apply pw_below_drewN | apply below_drew1 | refine below_set ?_ GE105.out) | exact HB.out)⟩
                                · rw [if_neg c28] at H
                                  have c28b0 : ((bt ((rd_T30 l0 x9_1).f1) x6_4) == 39) = false := beq_eq_false_iff_ne.mpr c28
                                  have c28b1 : ((bt ((rd_T30 l0 x9_1).f1) x6_4) != 39) = true := bne_iff_ne.mpr c28
                                  have H' := Aside0.mk H
                                  clear H
                                  have hcz30_0 : wr.cell? ⟨gb105, 0, none⟩ = some (.string ((rd_T30 l0 x9_1).f0)) := (blk_cell BK105.out 0).trans rfl
                                  have hcz30_1 : wr.cell? ⟨gb105, 1, none⟩ = some (.string ((rd_T30 l0 x9_1).f1)) := (blk_cell BK105.out 1).trans rfl
                                  have hfz30_0 := blk_frozen BK105.out 0
                                  have hfz30_1 := blk_frozen BK105.out 1
                                  have p27 : 0 ≤ (x6_4 : Int) := of_decide_eq_true (by first | (with_reducible assumption) | assumption)
                                  have q27 : x6_4 < (((rd_T30 l0 x9_1).f1).size : Int) := of_decide_eq_true (by first | (with_reducible assumption) | assumption)
                                  have hx27 := bt_at ((rd_T30 l0 x9_1).f1) x6_4
                                  replace p27 := eq_true p27
                                  replace q27 := eq_true q27
                                  go_wp2
                                  go_roundg k4
                                  case measure => have := HK1.out; have := HJ4.out; have := HK3.out; have := HK4.out; omega
                                  case rel => exact ⟨(wrap64 (x6_4 + 1)), (by first | rfl | (simp; done) | (simp [*]; done)), H', ⟨by have := HK1.out; have := HJ4.out; have := HK3.out; have := HK4.out; omega⟩, ⟨by (with_reducible repeat (first | refine blk_drewN ?_ _ | refine blk_drew ?_ | refine blk_alloc ?_ _)); exact BK105.out⟩, ⟨by repeat (first | (with_reducible first | exact HB.out | apply below_alloc | apply pw_below_drewN | apply below_drew1 | refine below_set ?_ GE105.out) | exact HB.out)⟩⟩
                              · rw [if_neg c26] at H
                                exact absurd H (by simp)
                            · rw [if_neg c25] at H
                              have c25b0 : decide (x6_4 < (((rd_T30 l0 x9_1).f1).size : Int)) = false := decide_eq_false c25
                              clear c25
                              have H' := Aside0.mk H
                              clear H
                              have hcz31_0 : wr.cell? ⟨gb105, 0, none⟩ = some (.string ((rd_T30 l0 x9_1).f0)) := (blk_cell BK105.out 0).trans rfl
                              have hcz31_1 : wr.cell? ⟨gb105, 1, none⟩ = some (.string ((rd_T30 l0 x9_1).f1)) := (blk_cell BK105.out 1).trans rfl
                              have hfz31_0 := blk_frozen BK105.out 0
                              have hfz31_1 := blk_frozen BK105.out 1
                              go_wp2
                              go_roundg k4
                              case measure => have := HK1.out; have := HJ4.out; have := HK3.out; have := HK4.out; omega
                              case rel => exact ⟨(wrap64 (x9_1 + 1)), (by first | rfl | (simp; done) | (simp [*]; done)), H', ⟨by have := HK1.out; have := HJ4.out; have := HK3.out; have := HK4.out; omega⟩, ⟨by repeat (first | (with_reducible first | exact HB.out | apply below_alloc | apply pw_below_drewN | apply below_drew1 | refine below_set ?_ GE105.out) | exact HB.out)⟩⟩
          · rw [if_neg c4] at H
            exact absurd H (by simp)
        · rw [if_neg c3] at H
          exact absurd H (by simp)
      · rw [if_neg c2] at H
        have c2b0 : decide (x9_1 < (l0.length : Int)) = false := decide_eq_false c2
        clear c2
        obtain rfl := Option.some.inj H
        go_wp2
        go_ret
        exact ⟨by first | rfl | (simp [errW_none, errW_some] <;> rfl) | (simp [*, errW_none, errW_some] <;> rfl), by repeat (first | (with_reducible first | exact HB.out | apply below_alloc | apply pw_below_drewN | apply below_drew1) | exact HB.out)⟩

end Go.Proofs.Ytoldgnmgjpjapaa.Q
