-- Written by a program of this session out of the translation; Lean checks it.
import Derived.Test.YtoaehanfknjngaaDoorQ5
namespace Go.Proofs.YtoaehanfknjngaaDoor.Q
open Go.RowKit Go.Proofs.YtoaehanfknjngaaDoor.L Go.Proofs.YtoaehanfknjngaaDoor.Gd Go.Proofs.YtoaehanfknjngaaDoor.Sb Go.Proofs.YtoaehanfknjngaaDoor.Vs Go.Proofs.YtoaehanfknjngaaDoorW.PrintWords Go.Proofs.YtoaehanfknjngaaDoorW.PrintLast Go.Proofs.YtoaehanfknjngaaDoorW.PrintMore
attribute [local go_sem] max2_int min2_int max_two min_two max_three min_three max_four min_four   -- for this text's walks alone
set_option linter.unusedVariables false
set_option linter.unusedSimpArgs false

mutual
def laws_sgKeys.l0 : Nat → Int → Int → Int → ByteArray → List (S30) → Option (Bool)
 | 0, _, _, _, _, _ => none
 | k + 1, x3, x130000, x130001, x130002, x130003 => if x130000 = 97 then (laws_sgKeys.j1 k x3 (decide ((wrap64 (x3 + 1)) < (x130002.size : Int))) x130000 x130001 x130002 x130003) else (laws_sgKeys.j1 k x3 false x130000 x130001 x130002 x130003)
def laws_sgKeys.j1 : Nat → Int → Bool → Int → Int → ByteArray → List (S30) → Option (Bool)
 | 0, _, _, _, _, _, _ => none
 | k + 1, x3, x16, x130000, x130001, x130002, x130003 => if x16 = true then (if 0 ≤ x3 then (if x3 < (x130002.size : Int) then (if (bt x130002 x3) = 123 then (if 0 ≤ (wrap64 (x3 + 1)) then (if (wrap64 (x3 + 1)) < (x130002.size : Int) then (if (bt x130002 (wrap64 (x3 + 1))) = 98 then (some false) else (if (bt x130002 (wrap64 (x3 + 1))) = 103 then (some false) else (laws_sgKeys.l0 k (wrap64 (x3 + 1)) x130000 x130001 x130002 x130003))) else (none)) else (none)) else (laws_sgKeys.l0 k (wrap64 (x3 + 1)) x130000 x130001 x130002 x130003)) else (none)) else (none)) else (laws_sgKeys.l1 k x130003 (x130003.length : Int) 0)
def laws_sgKeys.l1 : Nat → List (S30) → Int → Int → Option (Bool)
 | 0, _, _, _ => none
 | k + 1, x41, x42, x43 => if x43 < x42 then (if 0 ≤ x43 then (if x43 < (x41.length : Int) then ((laws_sgKeys.f k ((rd_T30 x41 x43).f0) ((rd_T30 x41 x43).f1) ((rd_T30 x41 x43).f2) ((rd_T30 x41 x43).f3)).bind fun t132 => (if t132 = true then (laws_sgKeys.l1 k x41 x42 (wrap64 (x43 + 1))) else (some false))) else (none)) else (none)) else (some true)
def laws_sgKeys.f : Nat → Int → Int → ByteArray → List (S30) → Option (Bool)
 | 0, _, _, _, _ => none
 | k + 1, a0_0, a0_1, a0_2, l0_3 => laws_sgKeys.l0 k 0 a0_0 a0_1 a0_2 l0_3
end
theorem laws_sgKeys.mono_l : ∀ k, (∀ y0 y1 y2 y3, LeO (laws_sgKeys.f k y0 y1 y2 y3) (laws_sgKeys.f (k + 1) y0 y1 y2 y3)) ∧ (∀ y0 y1 y2 y3 y4, LeO (laws_sgKeys.l0 k y0 y1 y2 y3 y4) (laws_sgKeys.l0 (k + 1) y0 y1 y2 y3 y4)) ∧ (∀ y0 y1 y2 y3 y4 y5, LeO (laws_sgKeys.j1 k y0 y1 y2 y3 y4 y5) (laws_sgKeys.j1 (k + 1) y0 y1 y2 y3 y4 y5)) ∧ (∀ y0 y1 y2, LeO (laws_sgKeys.l1 k y0 y1 y2) (laws_sgKeys.l1 (k + 1) y0 y1 y2))
 | 0 => ⟨fun _ _ _ _ r h => by simp [laws_sgKeys.f] at h, fun _ _ _ _ _ r h => by simp [laws_sgKeys.l0] at h, fun _ _ _ _ _ _ r h => by simp [laws_sgKeys.j1] at h, fun _ _ _ r h => by simp [laws_sgKeys.l1] at h⟩
 | k + 1 => by
  obtain ⟨ih0, ih1, ih2, ih3⟩ := laws_sgKeys.mono_l k
  refine ⟨?_, ?_, ?_, ?_⟩
  ·intro y0 y1 y2 y3
   unfold laws_sgKeys.f
   repeat' first
   | (with_reducible exact ih0 _ _ _ _)
   | (with_reducible exact ih1 _ _ _ _ _)
   | (with_reducible exact ih2 _ _ _ _ _ _)
   | (with_reducible exact ih3 _ _ _)
   | (with_reducible exact LeO.refl _)
   | (with_reducible exact LeO.none _)
   | (with_reducible refine LeO.ite ?_ ?_)
   | (with_reducible refine LeO.bind ?_ (fun _ => ?_))
   | exact ih0 _ _ _ _
   | exact ih1 _ _ _ _ _
   | exact ih2 _ _ _ _ _ _
   | exact ih3 _ _ _
   | exact LeO.none _
   | refine LeO.ite ?_ ?_
   | refine LeO.bind ?_ (fun _ => ?_)
  ·intro y0 y1 y2 y3 y4
   unfold laws_sgKeys.l0
   repeat' first
   | (with_reducible exact ih0 _ _ _ _)
   | (with_reducible exact ih1 _ _ _ _ _)
   | (with_reducible exact ih2 _ _ _ _ _ _)
   | (with_reducible exact ih3 _ _ _)
   | (with_reducible exact LeO.refl _)
   | (with_reducible exact LeO.none _)
   | (with_reducible refine LeO.ite ?_ ?_)
   | (with_reducible refine LeO.bind ?_ (fun _ => ?_))
   | exact ih0 _ _ _ _
   | exact ih1 _ _ _ _ _
   | exact ih2 _ _ _ _ _ _
   | exact ih3 _ _ _
   | exact LeO.none _
   | refine LeO.ite ?_ ?_
   | refine LeO.bind ?_ (fun _ => ?_)
  ·intro y0 y1 y2 y3 y4 y5
   unfold laws_sgKeys.j1
   repeat' first
   | (with_reducible exact ih0 _ _ _ _)
   | (with_reducible exact ih1 _ _ _ _ _)
   | (with_reducible exact ih2 _ _ _ _ _ _)
   | (with_reducible exact ih3 _ _ _)
   | (with_reducible exact LeO.refl _)
   | (with_reducible exact LeO.none _)
   | (with_reducible refine LeO.ite ?_ ?_)
   | (with_reducible refine LeO.bind ?_ (fun _ => ?_))
   | exact ih0 _ _ _ _
   | exact ih1 _ _ _ _ _
   | exact ih2 _ _ _ _ _ _
   | exact ih3 _ _ _
   | exact LeO.none _
   | refine LeO.ite ?_ ?_
   | refine LeO.bind ?_ (fun _ => ?_)
  ·intro y0 y1 y2
   unfold laws_sgKeys.l1
   repeat' first
   | (with_reducible exact ih0 _ _ _ _)
   | (with_reducible exact ih1 _ _ _ _ _)
   | (with_reducible exact ih2 _ _ _ _ _ _)
   | (with_reducible exact ih3 _ _ _)
   | (with_reducible exact LeO.refl _)
   | (with_reducible exact LeO.none _)
   | (with_reducible refine LeO.ite ?_ ?_)
   | (with_reducible refine LeO.bind ?_ (fun _ => ?_))
   | exact ih0 _ _ _ _
   | exact ih1 _ _ _ _ _
   | exact ih2 _ _ _ _ _ _
   | exact ih3 _ _ _
   | exact LeO.none _
   | refine LeO.ite ?_ ?_
   | refine LeO.bind ?_ (fun _ => ?_)
theorem laws_sgKeys.mono : ∀ a0 a1 a2 a3 k, LeO (laws_sgKeys.f k a0 a1 a2 a3) (laws_sgKeys.f (k + 1) a0 a1 a2 a3) := by
 intro a0 a1 a2 a3 k
 obtain ⟨ih0, ih1, ih2, ih3⟩ := laws_sgKeys.mono_l k
 exact ih0 a0 a1 a2 a3
set_option maxHeartbeats 8000000 in
set_option maxRecDepth 100000 in
theorem laws_sgKeys.calls (k : Nat) : ∀ (a0_0 : Int) (a0_1 : Int) (a0_2 : ByteArray) (A0_3 : Option Addr) (c0_3 : Nat) (l0_3 : List (S30)) (r : Bool) (w : World) (hr0_3 : Kd.C k30 w A0_3 l0_3.length l0_3) (hc0_3 : l0_3.length ≤ c0_3) (h : laws_sgKeys.f k a0_0 a0_1 a0_2 l0_3 = some r),
  Calls Tryd.prog 8 #[.agg #[.int .u8 a0_0, .int .u64 a0_1, .string a0_2, .slice A0_3 l0_3.length c0_3]] w fun e w' => e = .returned (.bool r) ∧ Below w.heap.size w w' := by
 induction k using Nat.strongRecOn with
 | _ k ih =>
 intro a0_0 a0_1 a0_2 A0_3 c0_3 l0_3 r w hr0_3 hc0_3 h
 cases k with
 | zero => exact absurd h (by simp [laws_sgKeys.f])
 | succ k =>
 simp only [laws_sgKeys.f] at h
 have hu30 := Tryd.underlying30
 have HR0_3 := Aside0.mk hr0_3
 have HC0_3 := Aside0.mk hc0_3
 clear hr0_3 hc0_3
 have HB := Aside0.mk (Below.refl w.heap.size w)
 have H : (laws_sgKeys.l0 k 0 a0_0 a0_1 a0_2 l0_3) = some r := h
 clear h
 have H' := Aside0.mk H
 clear H
 go_enter Tryd.func8, Tryd.ntmps8
 go_wp2_with (first | ((with_reducible refine gate_dst (N := 1) rfl ?_); (try (refine gate_guard (by rfl) ?_; dsimp only)); refine box_event ?hg (N := 1) ?hd (cs := #[.int .u8 a0_0, .int .u64 a0_1, .string a0_2, .slice A0_3 l0_3.length c0_3]) (t := 30) ?hr ?_; (case hd => rfl); (case hg => rfl); (case hr => first | (go_simp; done) | (go_simp; rfl)); intro gb129 hg w2 hbox hb; have n0_ := Aside0.mk (below_step (by repeat (first | (with_reducible first | exact HB.out | apply below_alloc | apply pw_below_drewN | apply below_drew1) | exact HB.out)) hb); have n1_ := Aside0.mk (hbox); have n2_ := Aside0.mk ((by rw [hg]; exact (below_size (by repeat (first | (with_reducible first | exact HB.out | apply below_alloc | apply pw_below_drewN | apply below_drew1) | exact HB.out))) : w.heap.size ≤ gb129)); have n3_ := Aside0.mk ((by rw [hg]; exact (below_size (by repeat (first | (with_reducible first | exact HB.out | apply below_alloc | apply pw_below_drewN | apply below_drew1) | exact HB.out))) : w.heap.size ≤ gb129)); clear HB; have HB := n0_; have BK129 := n1_; have GW129 := n2_; have GE129 := n3_; clear n0_ n1_ n2_ n3_; clear hb hbox hg))
 go_loopg [3] k (fun kq v3 w' => ∃ (x3_1 : Int), v3 = .int .i64 x3_1 ∧ Aside0 (laws_sgKeys.l0 kq x3_1 a0_0 a0_1 a0_2 l0_3 = some r) ∧ Aside0 (kq ≤ k) ∧ Aside0 (w'.heap[gb129]? = some (.cells #[.int .u8 a0_0, .int .u64 a0_1, .string a0_2, (.slice A0_3 l0_3.length c0_3)] 30 (0, 0))) ∧ Aside0 (Below w.heap.size w w'))
 case atStart => exact ⟨(0), (by first | rfl | (simp; done) | (simp [*]; done)), H', ⟨Nat.le_refl _⟩, ⟨by (with_reducible repeat (first | refine blk_drewN ?_ _ | refine blk_drew ?_ | refine blk_alloc ?_ _)); exact BK129.out⟩, ⟨by repeat (first | (with_reducible first | exact HB.out | apply below_alloc | apply pw_below_drewN | apply below_drew1 | refine below_set ?_ GE129.out) | exact HB.out)⟩⟩
 case round =>
  clear H'
  (try clear p2)
  obtain ⟨x3_1, rfl, HA, HK1, BK129, HB⟩ := hrel
  cases gk with
  | zero => exact absurd HA.out (by simp [laws_sgKeys.l0])
  | succ k1 =>
   have H := HA.out
   clear HA
   simp only [laws_sgKeys.l0] at H
   have HC3 := Aside0.mk H
   clear H
   go_upto_region 2 with (fail)
   go_cut [16] (fun v16 wc => ∃ (kq : Nat) (x16_2 : Bool), v16 = .bool x16_2 ∧ Aside0 (laws_sgKeys.j1 kq x3_1 x16_2 a0_0 a0_1 a0_2 l0_3 = some r) ∧ Aside0 (kq ≤ k1) ∧ Aside0 (wc.heap[gb129]? = some (.cells #[.int .u8 a0_0, .int .u64 a0_1, .string a0_2, (.slice A0_3 l0_3.length c0_3)] 30 (0, 0))) ∧ Aside0 (Below w.heap.size w wc))
   case first =>
    have H := HC3.out
    clear HC3
    by_cases c4 : a0_0 = 97
    ·rw [if_pos c4] at H
     have c4b0 : (a0_0 == 97) = true := beq_iff_eq.mpr c4
     have c4b1 : (a0_0 != 97) = false := bne_eq_false_iff_eq.mpr c4
     clear c4
     (first | rw [c4b0] | (simp only [i64_w, i32_w]; rw [c4b0]) | skip)
     have H' := Aside0.mk H
     clear H
     have hcz5_0 : wr.cell? ⟨gb129, 0, none⟩ = some (.int .u8 a0_0) := (blk_cell BK129.out 0).trans rfl
     have hcz5_1 : wr.cell? ⟨gb129, 1, none⟩ = some (.int .u64 a0_1) := (blk_cell BK129.out 1).trans rfl
     have hcz5_2 : wr.cell? ⟨gb129, 2, none⟩ = some (.string a0_2) := (blk_cell BK129.out 2).trans rfl
     have hcz5_3 : wr.cell? ⟨gb129, 3, none⟩ = some (.slice A0_3 l0_3.length c0_3) := (blk_cell BK129.out 3).trans rfl
     have hfz5_0 := blk_frozen BK129.out 0
     have hfz5_1 := blk_frozen BK129.out 1
     have hfz5_2 := blk_frozen BK129.out 2
     have hfz5_3 := blk_frozen BK129.out 3
     go_wp2
     go_meet
     case rel => exact ⟨_, (decide ((wrap64 (x3_1 + 1)) < (a0_2.size : Int))), (by first | rfl | (simp; done) | (simp [*]; done)), H', ⟨by have := HK1.out; first | omega | exact Nat.le_refl _⟩, ⟨by (with_reducible repeat (first | refine blk_drewN ?_ _ | refine blk_drew ?_ | refine blk_alloc ?_ _)); exact BK129.out⟩, ⟨by repeat (first | (with_reducible first | exact HB.out | apply below_alloc | apply pw_below_drewN | apply below_drew1 | refine below_set ?_ GE129.out) | exact HB.out)⟩⟩
    ·rw [if_neg c4] at H
     have c4b0 : (a0_0 == 97) = false := beq_eq_false_iff_ne.mpr c4
     have c4b1 : (a0_0 != 97) = true := bne_iff_ne.mpr c4
     (first | rw [c4b0] | (simp only [i64_w, i32_w]; rw [c4b0]) | skip)
     have H' := Aside0.mk H
     clear H
     have hcz6_0 : wr.cell? ⟨gb129, 0, none⟩ = some (.int .u8 a0_0) := (blk_cell BK129.out 0).trans rfl
     have hcz6_1 : wr.cell? ⟨gb129, 1, none⟩ = some (.int .u64 a0_1) := (blk_cell BK129.out 1).trans rfl
     have hcz6_2 : wr.cell? ⟨gb129, 2, none⟩ = some (.string a0_2) := (blk_cell BK129.out 2).trans rfl
     have hcz6_3 : wr.cell? ⟨gb129, 3, none⟩ = some (.slice A0_3 l0_3.length c0_3) := (blk_cell BK129.out 3).trans rfl
     have hfz6_0 := blk_frozen BK129.out 0
     have hfz6_1 := blk_frozen BK129.out 1
     have hfz6_2 := blk_frozen BK129.out 2
     have hfz6_3 := blk_frozen BK129.out 3
     go_wp2
     go_meet
     case rel => exact ⟨_, (false), (by first | rfl | (simp; done) | (simp [*]; done)), H', ⟨by have := HK1.out; first | omega | exact Nat.le_refl _⟩, ⟨by (with_reducible repeat (first | refine blk_drewN ?_ _ | refine blk_drew ?_ | refine blk_alloc ?_ _)); exact BK129.out⟩, ⟨by repeat (first | (with_reducible first | exact HB.out | apply below_alloc | apply pw_below_drewN | apply below_drew1 | refine below_set ?_ GE129.out) | exact HB.out)⟩⟩
   case rest =>
    clear HC3
    (try clear p2); (try clear c4); (try clear c4b0); (try clear c4b1); (try clear p6); (try clear hcz5_0); (try clear hcz5_1); (try clear hcz5_2); (try clear hcz5_3); (try clear hcz6_0); (try clear hcz6_1); (try clear hcz6_2); (try clear hcz6_3); (try clear hfz5_0); (try clear hfz5_1); (try clear hfz5_2); (try clear hfz5_3); (try clear hfz6_0); (try clear hfz6_1); (try clear hfz6_2); (try clear hfz6_3); (try clear p2)
    obtain ⟨kq, x16_2, rfl, HA, HJ2, BK129, HB⟩ := hcut
    cases kq with
    | zero => exact absurd HA.out (by simp [laws_sgKeys.j1])
    | succ kj2 =>
     have H := HA.out
     clear HA
     simp only [laws_sgKeys.j1] at H
     by_cases c7 : x16_2 = true
     ·subst c7
      have H1 : (if 0 ≤ x3_1 then (if x3_1 < (a0_2.size : Int) then (if (bt a0_2 x3_1) = 123 then (if 0 ≤ (wrap64 (x3_1 + 1)) then (if (wrap64 (x3_1 + 1)) < (a0_2.size : Int) then (if (bt a0_2 (wrap64 (x3_1 + 1))) = 98 then (some false) else (if (bt a0_2 (wrap64 (x3_1 + 1))) = 103 then (some false) else (laws_sgKeys.l0 kj2 (wrap64 (x3_1 + 1)) a0_0 a0_1 a0_2 l0_3))) else (none)) else (none)) else (laws_sgKeys.l0 kj2 (wrap64 (x3_1 + 1)) a0_0 a0_1 a0_2 l0_3)) else (none)) else (none)) = some r := by rw [if_pos rfl] at H; exact H
      clear H
      have H := H1
      clear H1
      by_cases c8 : 0 ≤ x3_1
      ·rw [if_pos c8] at H
       have c8b0 : decide (0 ≤ x3_1) = true := decide_eq_true c8
       clear c8
       by_cases c9 : x3_1 < (a0_2.size : Int)
       ·rw [if_pos c9] at H
        have c9b0 : decide (x3_1 < (a0_2.size : Int)) = true := decide_eq_true c9
        clear c9
        by_cases c11 : (bt a0_2 x3_1) = 123
        ·rw [if_pos c11] at H
         have c11b0 : ((bt a0_2 x3_1) == 123) = true := beq_iff_eq.mpr c11
         have c11b1 : ((bt a0_2 x3_1) != 123) = false := bne_eq_false_iff_eq.mpr c11
         clear c11
         obtain ⟨ji12, hji12⟩ : ∃ j_ : Int, (wrap64 (x3_1 + 1)) = j_ := ⟨_, rfl⟩
         replace H : (if 0 ≤ (ji12) then (if (ji12) < (a0_2.size : Int) then (if (bt a0_2 (ji12)) = 98 then (some false) else (if (bt a0_2 (ji12)) = 103 then (some false) else (laws_sgKeys.l0 kj2 ji12 a0_0 a0_1 a0_2 l0_3))) else (none)) else (none)) = some r := by first | (rw [hji12] at H; exact H) | (simp only [hji12] at H ⊢; exact H)
         have hji12w : (IntKind.i64.wrap (x3_1 + 1)) = ji12 := (i64_w _).trans hji12
         by_cases c13 : 0 ≤ (ji12)
         ·rw [if_pos c13] at H
          have c13b0 : decide (0 ≤ (ji12)) = true := decide_eq_true c13
          clear c13
          by_cases c14 : (ji12) < (a0_2.size : Int)
          ·rw [if_pos c14] at H
           have c14b0 : decide ((ji12) < (a0_2.size : Int)) = true := decide_eq_true c14
           clear c14
           by_cases c16 : (bt a0_2 (ji12)) = 98
           ·rw [if_pos c16] at H
            have c16b0 : ((bt a0_2 (ji12)) == 98) = true := beq_iff_eq.mpr c16
            have c16b1 : ((bt a0_2 (ji12)) != 98) = false := bne_eq_false_iff_eq.mpr c16
            clear c16
            obtain rfl := Option.some.inj H
            have hcz17_0 : wc.cell? ⟨gb129, 0, none⟩ = some (.int .u8 a0_0) := (blk_cell BK129.out 0).trans rfl
            have hcz17_1 : wc.cell? ⟨gb129, 1, none⟩ = some (.int .u64 a0_1) := (blk_cell BK129.out 1).trans rfl
            have hcz17_2 : wc.cell? ⟨gb129, 2, none⟩ = some (.string a0_2) := (blk_cell BK129.out 2).trans rfl
            have hcz17_3 : wc.cell? ⟨gb129, 3, none⟩ = some (.slice A0_3 l0_3.length c0_3) := (blk_cell BK129.out 3).trans rfl
            have hfz17_0 := blk_frozen BK129.out 0
            have hfz17_1 := blk_frozen BK129.out 1
            have hfz17_2 := blk_frozen BK129.out 2
            have hfz17_3 := blk_frozen BK129.out 3
            have p10 : 0 ≤ (x3_1 : Int) := of_decide_eq_true (by first | (with_reducible assumption) | assumption)
            have q10 : x3_1 < (a0_2.size : Int) := of_decide_eq_true (by first | (with_reducible assumption) | assumption)
            have hx10 := bt_at a0_2 x3_1
            replace p10 := eq_true p10
            replace q10 := eq_true q10
            have p15 : 0 ≤ ((ji12) : Int) := of_decide_eq_true (by first | (with_reducible assumption) | assumption)
            have q15 : (ji12) < (a0_2.size : Int) := of_decide_eq_true (by first | (with_reducible assumption) | assumption)
            have hx15 := bt_at a0_2 (ji12)
            replace p15 := eq_true p15
            replace q15 := eq_true q15
            go_wp2
            go_ret
            exact ⟨by first | rfl | (simp [errW_none, errW_some] <;> rfl) | (simp only [← hji12]; first | rfl | (simp [errW_none, errW_some] <;> rfl)) | (simp [*, errW_none, errW_some] <;> rfl), by repeat (first | (with_reducible first | exact HB.out | apply below_alloc | apply pw_below_drewN | apply below_drew1 | refine below_set ?_ GE129.out) | exact HB.out)⟩
           ·rw [if_neg c16] at H
            have c16b0 : ((bt a0_2 (ji12)) == 98) = false := beq_eq_false_iff_ne.mpr c16
            have c16b1 : ((bt a0_2 (ji12)) != 98) = true := bne_iff_ne.mpr c16
            by_cases c19 : (bt a0_2 (ji12)) = 103
            ·rw [if_pos c19] at H
             have c19b0 : ((bt a0_2 (ji12)) == 103) = true := beq_iff_eq.mpr c19
             have c19b1 : ((bt a0_2 (ji12)) != 103) = false := bne_eq_false_iff_eq.mpr c19
             clear c19
             obtain rfl := Option.some.inj H
             have hcz20_0 : wc.cell? ⟨gb129, 0, none⟩ = some (.int .u8 a0_0) := (blk_cell BK129.out 0).trans rfl
             have hcz20_1 : wc.cell? ⟨gb129, 1, none⟩ = some (.int .u64 a0_1) := (blk_cell BK129.out 1).trans rfl
             have hcz20_2 : wc.cell? ⟨gb129, 2, none⟩ = some (.string a0_2) := (blk_cell BK129.out 2).trans rfl
             have hcz20_3 : wc.cell? ⟨gb129, 3, none⟩ = some (.slice A0_3 l0_3.length c0_3) := (blk_cell BK129.out 3).trans rfl
             have hfz20_0 := blk_frozen BK129.out 0
             have hfz20_1 := blk_frozen BK129.out 1
             have hfz20_2 := blk_frozen BK129.out 2
             have hfz20_3 := blk_frozen BK129.out 3
             have p10 : 0 ≤ (x3_1 : Int) := of_decide_eq_true (by first | (with_reducible assumption) | assumption)
             have q10 : x3_1 < (a0_2.size : Int) := of_decide_eq_true (by first | (with_reducible assumption) | assumption)
             have hx10 := bt_at a0_2 x3_1
             replace p10 := eq_true p10
             replace q10 := eq_true q10
             have p15 : 0 ≤ ((ji12) : Int) := of_decide_eq_true (by first | (with_reducible assumption) | assumption)
             have q15 : (ji12) < (a0_2.size : Int) := of_decide_eq_true (by first | (with_reducible assumption) | assumption)
             have hx15 := bt_at a0_2 (ji12)
             replace p15 := eq_true p15
             replace q15 := eq_true q15
             have p18 : 0 ≤ ((ji12) : Int) := of_decide_eq_true (by first | (with_reducible assumption) | assumption)
             have q18 : (ji12) < (a0_2.size : Int) := of_decide_eq_true (by first | (with_reducible assumption) | assumption)
             have hx18 := bt_at a0_2 (ji12)
             replace p18 := eq_true p18
             replace q18 := eq_true q18
             go_wp2
             go_ret
             exact ⟨by first | rfl | (simp [errW_none, errW_some] <;> rfl) | (simp only [← hji12]; first | rfl | (simp [errW_none, errW_some] <;> rfl)) | (simp [*, errW_none, errW_some] <;> rfl), by repeat (first | (with_reducible first | exact HB.out | apply below_alloc | apply pw_below_drewN | apply below_drew1 | refine below_set ?_ GE129.out) | exact HB.out)⟩
            ·rw [if_neg c19] at H
             have c19b0 : ((bt a0_2 (ji12)) == 103) = false := beq_eq_false_iff_ne.mpr c19
             have c19b1 : ((bt a0_2 (ji12)) != 103) = true := bne_iff_ne.mpr c19
             have H' := Aside0.mk H
             clear H
             have hcz21_0 : wc.cell? ⟨gb129, 0, none⟩ = some (.int .u8 a0_0) := (blk_cell BK129.out 0).trans rfl
             have hcz21_1 : wc.cell? ⟨gb129, 1, none⟩ = some (.int .u64 a0_1) := (blk_cell BK129.out 1).trans rfl
             have hcz21_2 : wc.cell? ⟨gb129, 2, none⟩ = some (.string a0_2) := (blk_cell BK129.out 2).trans rfl
             have hcz21_3 : wc.cell? ⟨gb129, 3, none⟩ = some (.slice A0_3 l0_3.length c0_3) := (blk_cell BK129.out 3).trans rfl
             have hfz21_0 := blk_frozen BK129.out 0
             have hfz21_1 := blk_frozen BK129.out 1
             have hfz21_2 := blk_frozen BK129.out 2
             have hfz21_3 := blk_frozen BK129.out 3
             have p10 : 0 ≤ (x3_1 : Int) := of_decide_eq_true (by first | (with_reducible assumption) | assumption)
             have q10 : x3_1 < (a0_2.size : Int) := of_decide_eq_true (by first | (with_reducible assumption) | assumption)
             have hx10 := bt_at a0_2 x3_1
             replace p10 := eq_true p10
             replace q10 := eq_true q10
             have p15 : 0 ≤ ((ji12) : Int) := of_decide_eq_true (by first | (with_reducible assumption) | assumption)
             have q15 : (ji12) < (a0_2.size : Int) := of_decide_eq_true (by first | (with_reducible assumption) | assumption)
             have hx15 := bt_at a0_2 (ji12)
             replace p15 := eq_true p15
             replace q15 := eq_true q15
             have p18 : 0 ≤ ((ji12) : Int) := of_decide_eq_true (by first | (with_reducible assumption) | assumption)
             have q18 : (ji12) < (a0_2.size : Int) := of_decide_eq_true (by first | (with_reducible assumption) | assumption)
             have hx18 := bt_at a0_2 (ji12)
             replace p18 := eq_true p18
             replace q18 := eq_true q18
             go_wp2
             go_roundg kj2
             case measure => have := HK1.out; have := HJ2.out; omega
             case rel => exact ⟨(ji12), (by first | rfl | (simp; done) | (simp only [← hji12] <;> (first | rfl | simp)) | (simp [*]; done)), H', ⟨by have := HK1.out; have := HJ2.out; omega⟩, ⟨by (with_reducible repeat (first | refine blk_drewN ?_ _ | refine blk_drew ?_ | refine blk_alloc ?_ _)); exact BK129.out⟩, ⟨by repeat (first | (with_reducible first | exact HB.out | apply below_alloc | apply pw_below_drewN | apply below_drew1 | refine below_set ?_ GE129.out) | exact HB.out)⟩⟩
          ·rw [if_neg c14] at H
           exact absurd H (by simp)
         ·rw [if_neg c13] at H
          exact absurd H (by simp)
        ·rw [if_neg c11] at H
         have c11b0 : ((bt a0_2 x3_1) == 123) = false := beq_eq_false_iff_ne.mpr c11
         have c11b1 : ((bt a0_2 x3_1) != 123) = true := bne_iff_ne.mpr c11
         have H' := Aside0.mk H
         clear H
         have hcz22_0 : wc.cell? ⟨gb129, 0, none⟩ = some (.int .u8 a0_0) := (blk_cell BK129.out 0).trans rfl
         have hcz22_1 : wc.cell? ⟨gb129, 1, none⟩ = some (.int .u64 a0_1) := (blk_cell BK129.out 1).trans rfl
         have hcz22_2 : wc.cell? ⟨gb129, 2, none⟩ = some (.string a0_2) := (blk_cell BK129.out 2).trans rfl
         have hcz22_3 : wc.cell? ⟨gb129, 3, none⟩ = some (.slice A0_3 l0_3.length c0_3) := (blk_cell BK129.out 3).trans rfl
         have hfz22_0 := blk_frozen BK129.out 0
         have hfz22_1 := blk_frozen BK129.out 1
         have hfz22_2 := blk_frozen BK129.out 2
         have hfz22_3 := blk_frozen BK129.out 3
         have p10 : 0 ≤ (x3_1 : Int) := of_decide_eq_true (by first | (with_reducible assumption) | assumption)
         have q10 : x3_1 < (a0_2.size : Int) := of_decide_eq_true (by first | (with_reducible assumption) | assumption)
         have hx10 := bt_at a0_2 x3_1
         replace p10 := eq_true p10
         replace q10 := eq_true q10
         go_wp2
         go_roundg kj2
         case measure => have := HK1.out; have := HJ2.out; omega
         case rel => exact ⟨(wrap64 (x3_1 + 1)), (by first | rfl | (simp; done) | (simp [*]; done)), H', ⟨by have := HK1.out; have := HJ2.out; omega⟩, ⟨by (with_reducible repeat (first | refine blk_drewN ?_ _ | refine blk_drew ?_ | refine blk_alloc ?_ _)); exact BK129.out⟩, ⟨by repeat (first | (with_reducible first | exact HB.out | apply below_alloc | apply pw_below_drewN | apply below_drew1 | refine below_set ?_ GE129.out) | exact HB.out)⟩⟩
       ·rw [if_neg c9] at H
        exact absurd H (by simp)
      ·rw [if_neg c8] at H
       exact absurd H (by simp)
     ·replace c7 := Bool.eq_false_iff.mpr c7
      subst c7
      have H1 : (laws_sgKeys.l1 kj2 l0_3 (l0_3.length : Int) 0) = some r := by rw [if_neg (show ¬ (false = true) by decide)] at H; exact H
      clear H
      have H := H1
      clear H1
      have H' := Aside0.mk H
      clear H
      have hcz23_0 : wc.cell? ⟨gb129, 0, none⟩ = some (.int .u8 a0_0) := (blk_cell BK129.out 0).trans rfl
      have hcz23_1 : wc.cell? ⟨gb129, 1, none⟩ = some (.int .u64 a0_1) := (blk_cell BK129.out 1).trans rfl
      have hcz23_2 : wc.cell? ⟨gb129, 2, none⟩ = some (.string a0_2) := (blk_cell BK129.out 2).trans rfl
      have hcz23_3 : wc.cell? ⟨gb129, 3, none⟩ = some (.slice A0_3 l0_3.length c0_3) := (blk_cell BK129.out 3).trans rfl
      have hfz23_0 := blk_frozen BK129.out 0
      have hfz23_1 := blk_frozen BK129.out 1
      have hfz23_2 := blk_frozen BK129.out 2
      have hfz23_3 := blk_frozen BK129.out 3
      go_wp2
      go_loopg [43] kj2 (fun kq v43 w' => ∃ (x43_3 : Int), v43 = .int .i64 x43_3 ∧ Aside0 (laws_sgKeys.l1 kq l0_3 (l0_3.length : Int) x43_3 = some r) ∧ Aside0 (kq ≤ kj2) ∧ Aside0 (w'.heap[gb129]? = some (.cells #[.int .u8 a0_0, .int .u64 a0_1, .string a0_2, (.slice A0_3 l0_3.length c0_3)] 30 (0, 0))) ∧ Aside0 (Below w.heap.size w w'))
      case atStart => exact ⟨(0), (by first | rfl | (simp; done) | (simp [*]; done)), H', ⟨Nat.le_refl _⟩, ⟨by (with_reducible repeat (first | refine blk_drewN ?_ _ | refine blk_drew ?_ | refine blk_alloc ?_ _)); exact BK129.out⟩, ⟨by repeat (first | (with_reducible first | exact HB.out | apply below_alloc | apply pw_below_drewN | apply below_drew1 | refine below_set ?_ GE129.out) | exact HB.out)⟩⟩
      case round =>
       clear H'
       (try clear c1); (try clear p1); (try clear q1); (try clear hx1); (try clear p2); (try clear c4); (try clear c4b0); (try clear c4b1); (try clear p6); (try clear c7); (try clear c8); (try clear c8b0); (try clear c9); (try clear c9b0); (try clear p10); (try clear q10); (try clear hx10); (try clear c11); (try clear c11b0); (try clear c11b1); (try clear c13); (try clear c13b0); (try clear c14); (try clear c14b0); (try clear p15); (try clear q15); (try clear hx15); (try clear c16); (try clear c16b0); (try clear c16b1); (try clear p18); (try clear q18); (try clear hx18); (try clear c19); (try clear c19b0); (try clear c19b1); (try clear hcz17_0); (try clear hcz17_1); (try clear hcz17_2); (try clear hcz17_3); (try clear hcz20_0); (try clear hcz20_1); (try clear hcz20_2); (try clear hcz20_3); (try clear hcz21_0); (try clear hcz21_1); (try clear hcz21_2); (try clear hcz21_3); (try clear hcz22_0); (try clear hcz22_1); (try clear hcz22_2); (try clear hcz22_3); (try clear hcz23_0); (try clear hcz23_1); (try clear hcz23_2); (try clear hcz23_3); (try clear hcz5_0); (try clear hcz5_1); (try clear hcz5_2); (try clear hcz5_3); (try clear hcz6_0); (try clear hcz6_1); (try clear hcz6_2); (try clear hcz6_3); (try clear hfz17_0); (try clear hfz17_1); (try clear hfz17_2); (try clear hfz17_3); (try clear hfz20_0); (try clear hfz20_1); (try clear hfz20_2); (try clear hfz20_3); (try clear hfz21_0); (try clear hfz21_1); (try clear hfz21_2); (try clear hfz21_3); (try clear hfz22_0); (try clear hfz22_1); (try clear hfz22_2); (try clear hfz22_3); (try clear hfz23_0); (try clear hfz23_1); (try clear hfz23_2); (try clear hfz23_3); (try clear hfz5_0); (try clear hfz5_1); (try clear hfz5_2); (try clear hfz5_3); (try clear hfz6_0); (try clear hfz6_1); (try clear hfz6_2); (try clear hfz6_3); (try clear p10); (try clear p15); (try clear p18); (try clear p2); (try clear p6); (try clear q10); (try clear q15); (try clear q18)
       obtain ⟨x43_3, rfl, HA, HK3, BK129, HB⟩ := hrel
       cases gk with
       | zero => exact absurd HA.out (by simp [laws_sgKeys.l1])
       | succ k3 =>
        have H := HA.out
        clear HA
        simp only [laws_sgKeys.l1] at H
        by_cases c24 : x43_3 < (l0_3.length : Int)
        ·rw [if_pos c24] at H
         have c24b0 : decide (x43_3 < (l0_3.length : Int)) = true := decide_eq_true c24
         clear c24
         by_cases c25 : 0 ≤ x43_3
         ·rw [if_pos c25] at H
          have c25b0 : decide (0 ≤ x43_3) = true := decide_eq_true c25
          clear c25
          by_cases c26 : x43_3 < (l0_3.length : Int)
          ·rw [if_pos c26] at H
           have c26b0 : decide (x43_3 < (l0_3.length : Int)) = true := decide_eq_true c26
           clear c26
           replace H := Option.bind_eq_some_iff.mp H
           obtain ⟨t132, A270, H⟩ := H
           replace H : (if t132 = true then (laws_sgKeys.l1 k3 l0_3 (l0_3.length : Int) (wrap64 (x43_3 + 1))) else (some false)) = some r := H
           have A27 := Aside0.mk A270
           clear A270
           by_cases c28 : t132 = true
           ·subst c28
            have H1 : (laws_sgKeys.l1 k3 l0_3 (l0_3.length : Int) (wrap64 (x43_3 + 1))) = some r := by rw [if_pos rfl] at H; exact H
            clear H
            have H := H1
            clear H1
            have H' := Aside0.mk H
            clear H
            have p130 : 0 ≤ (x43_3 : Int) := of_decide_eq_true (by first | (with_reducible assumption) | assumption)
            have q130 : x43_3 < (l0_3.length : Int) := of_decide_eq_true (by first | (with_reducible assumption) | assumption)
            obtain ⟨ad130, A130_3, c130_3, e130, hx130_0, hx130_1, hx130_2, hx130_3, hl130_3, hi130_3⟩ := at_T30 HR0_3.out x43_3 p130 q130
            cases e130
            replace hx130_0 := (HB.out.cell (World.block_lt_of_cell? w _ hx130_0)).trans hx130_0
            replace hx130_1 := (HB.out.cell (World.block_lt_of_cell? w _ hx130_1)).trans hx130_1
            replace hx130_2 := (HB.out.cell (World.block_lt_of_cell? w _ hx130_2)).trans hx130_2
            replace hx130_3 := (HB.out.cell (World.block_lt_of_cell? w _ hx130_3)).trans hx130_3
            have HR130_3 := Aside0.mk hi130_3
            have HC130_3 := Aside0.mk hl130_3
            clear hi130_3 hl130_3
            replace p130 := eq_true p130
            replace q130 := eq_true q130
            go_wp2_with (first | ((with_reducible refine gate_dst (N := 5) rfl ?_); (try (refine gate_guard (by rfl) ?_; dsimp only)); refine box_event ?hg (N := 5) ?hd (cs := #[.int .u8 0, .int .u64 0, .string (⟨#[]⟩ : ByteArray), .slice none 0 0]) (t := 30) ?hr ?_; (case hd => rfl); (case hg => rfl); (case hr => first | (go_simp; done) | (go_simp; rfl)); intro gb131 hg w29 hbox hb; have n0_ := Aside0.mk (blk_below (g := gb129) (o := .cells #[.int .u8 a0_0, .int .u64 a0_1, .string a0_2, .slice (some ad130) l0_3.length c0_3] 30 (0, 0)) (by (with_reducible repeat (first | refine blk_drewN ?_ _ | refine blk_drew ?_ | refine blk_alloc ?_ _)); exact BK129.out) hb); have n1_ := Aside0.mk (below_step (by repeat (first | (with_reducible first | exact HB.out | apply below_alloc | apply pw_below_drewN | apply below_drew1 | refine below_set ?_ GE129.out) | exact HB.out)) hb); have n2_ := Aside0.mk (hbox); have n3_ := Aside0.mk ((by rw [hg]; exact (below_size (by repeat (first | (with_reducible first | exact HB.out | apply below_alloc | apply pw_below_drewN | apply below_drew1 | refine below_set ?_ GE129.out) | exact HB.out))) : w.heap.size ≤ gb131)); have n4_ := Aside0.mk ((by rw [hg]; exact (below_size (by repeat (first | (with_reducible first | exact HB.out | apply below_alloc | apply pw_below_drewN | apply below_drew1 | refine below_set ?_ GE129.out) | exact HB.out))) : w.heap.size ≤ gb131)); have n5_ := Aside0.mk ((by rw [hg]; exact Nat.ne_of_lt (blk_lt (g := gb129) (o := .cells #[.int .u8 a0_0, .int .u64 a0_1, .string a0_2, .slice (some ad130) l0_3.length c0_3] 30 (0, 0)) (by (with_reducible repeat (first | refine blk_drewN ?_ _ | refine blk_drew ?_ | refine blk_alloc ?_ _)); exact BK129.out)) : gb129 ≠ gb131)); have n6_ := Aside0.mk ((by rw [hg]; exact Nat.ne_of_gt (blk_lt (g := gb129) (o := .cells #[.int .u8 a0_0, .int .u64 a0_1, .string a0_2, .slice (some ad130) l0_3.length c0_3] 30 (0, 0)) (by (with_reducible repeat (first | refine blk_drewN ?_ _ | refine blk_drew ?_ | refine blk_alloc ?_ _)); exact BK129.out)) : gb131 ≠ gb129)); clear BK129; clear HB; have BK129 := n0_; have HB := n1_; have BK131 := n2_; have GW131 := n3_; have GE131 := n4_; have NB129_131 := n5_; have NB131_129 := n6_; clear n0_ n1_ n2_ n3_ n4_ n5_ n6_; clear hb hbox hg; have hnb30 := NB131_129.out; have hnc30 := NB129_131.out; have hcz31_0 : w29.cell? ⟨gb131, 0, none⟩ = some (.int .u8 0) := (blk_cell BK131.out 0).trans rfl; have hcz31_1 : w29.cell? ⟨gb131, 1, none⟩ = some (.int .u64 0) := (blk_cell BK131.out 1).trans rfl; have hcz31_2 : w29.cell? ⟨gb131, 2, none⟩ = some (.string (⟨#[]⟩ : ByteArray)) := (blk_cell BK131.out 2).trans rfl; have hcz31_3 : w29.cell? ⟨gb131, 3, none⟩ = some (.slice none 0 0) := (blk_cell BK131.out 3).trans rfl; have hfz31_0 := blk_frozen BK131.out 0; have hfz31_1 := blk_frozen BK131.out 1; have hfz31_2 := blk_frozen BK131.out 2; have hfz31_3 := blk_frozen BK131.out 3) | ((with_reducible refine gate_callee (f := 8) rfl ?_); refine goesL_ (some 48) rfl rfl Tryd.func8 (by kernel_rfl) rfl #[.agg #[.int .u8 ((rd_T30 l0_3 x43_3).f0), .int .u64 ((rd_T30 l0_3 x43_3).f1), .string ((rd_T30 l0_3 x43_3).f2), .slice A130_3 ((rd_T30 l0_3 x43_3).f3).length c130_3]] rfl (by (try simp only [List.map_toArray, List.map_cons, List.map_nil]); first | done | rfl) ?_; (with_reducible refine (ih k3 (by have := HK1.out; have := HJ2.out; have := HK3.out; omega) ((rd_T30 l0_3 x43_3).f0) ((rd_T30 l0_3 x43_3).f1) ((rd_T30 l0_3 x43_3).f2) _ _ ((rd_T30 l0_3 x43_3).f3) true _ ?side1 ?side2 A27.out).mono ?_); (case side1 => exact Kd.C_below HR130_3.out (by repeat (first | (with_reducible first | exact HB.out | apply below_alloc | apply pw_below_drewN | apply below_drew1 | refine below_set ?_ GE129.out | refine below_set ?_ GE131.out) | exact HB.out))); (case side2 => exact HC130_3.out); rintro e w32 ⟨rfl, hb⟩; refine ⟨_, rfl, ?_⟩; have n0_ := Aside0.mk (blk_below (g := gb129) (o := .cells #[.int .u8 a0_0, .int .u64 a0_1, .string a0_2, .slice (some ad130) l0_3.length c0_3] 30 (0, 0)) (by (with_reducible repeat (first | refine blk_drewN ?_ _ | refine blk_drew ?_ | refine blk_alloc ?_ _)); refine blk_far ?_ NB129_131.out _; (with_reducible repeat (first | refine blk_drewN ?_ _ | refine blk_drew ?_ | refine blk_alloc ?_ _)); refine blk_far ?_ NB129_131.out _; (with_reducible repeat (first | refine blk_drewN ?_ _ | refine blk_drew ?_ | refine blk_alloc ?_ _)); refine blk_far ?_ NB129_131.out _; (with_reducible repeat (first | refine blk_drewN ?_ _ | refine blk_drew ?_ | refine blk_alloc ?_ _)); refine blk_far ?_ NB129_131.out _; (with_reducible repeat (first | refine blk_drewN ?_ _ | refine blk_drew ?_ | refine blk_alloc ?_ _)); exact BK129.out) hb); have n1_ := Aside0.mk (blk_below (g := gb131) (o := .cells #[.int .u8 ((rd_T30 l0_3 x43_3).f0), .int .u64 ((rd_T30 l0_3 x43_3).f1), .string ((rd_T30 l0_3 x43_3).f2), .slice A130_3 ((rd_T30 l0_3 x43_3).f3).length c130_3] 30 (0, 0)) (by (with_reducible repeat (first | refine blk_drewN ?_ _ | refine blk_drew ?_ | refine blk_alloc ?_ _)); refine blk_put (cs := #[.int .u8 ((rd_T30 l0_3 x43_3).f0), .int .u64 ((rd_T30 l0_3 x43_3).f1), .string ((rd_T30 l0_3 x43_3).f2), .slice none 0 0]) ?_ 3 _ rfl; (with_reducible repeat (first | refine blk_drewN ?_ _ | refine blk_drew ?_ | refine blk_alloc ?_ _)); refine blk_put (cs := #[.int .u8 ((rd_T30 l0_3 x43_3).f0), .int .u64 ((rd_T30 l0_3 x43_3).f1), .string (⟨#[]⟩ : ByteArray), .slice none 0 0]) ?_ 2 _ rfl; (with_reducible repeat (first | refine blk_drewN ?_ _ | refine blk_drew ?_ | refine blk_alloc ?_ _)); refine blk_put (cs := #[.int .u8 ((rd_T30 l0_3 x43_3).f0), .int .u64 0, .string (⟨#[]⟩ : ByteArray), .slice none 0 0]) ?_ 1 _ rfl; (with_reducible repeat (first | refine blk_drewN ?_ _ | refine blk_drew ?_ | refine blk_alloc ?_ _)); refine blk_put (cs := #[.int .u8 0, .int .u64 0, .string (⟨#[]⟩ : ByteArray), .slice none 0 0]) ?_ 0 _ rfl; (with_reducible repeat (first | refine blk_drewN ?_ _ | refine blk_drew ?_ | refine blk_alloc ?_ _)); exact BK131.out) hb); have n2_ := Aside0.mk (below_step (by repeat (first | (with_reducible first | exact HB.out | apply below_alloc | apply pw_below_drewN | apply below_drew1 | refine below_set ?_ GE129.out | refine below_set ?_ GE131.out) | exact HB.out)) hb); clear BK129; clear BK131; clear HB; have BK129 := n0_; have BK131 := n1_; have HB := n2_; clear n0_ n1_ n2_; (try clear hb); (try clear hb2); (try clear hk); (try clear hi)))
            go_roundg k3
            case measure => have := HK1.out; have := HJ2.out; have := HK3.out; omega
            case rel => exact ⟨(wrap64 (x43_3 + 1)), (by first | rfl | (simp; done) | (simp [*]; done)), H', ⟨by have := HK1.out; have := HJ2.out; have := HK3.out; omega⟩, ⟨by (with_reducible repeat (first | refine blk_drewN ?_ _ | refine blk_drew ?_ | refine blk_alloc ?_ _)); exact BK129.out⟩, ⟨by repeat (first | (with_reducible first | exact HB.out | apply below_alloc | apply pw_below_drewN | apply below_drew1 | refine below_set ?_ GE129.out | refine below_set ?_ GE131.out) | exact HB.out)⟩⟩
           ·replace c28 := Bool.eq_false_iff.mpr c28
            subst c28
            have H1 : (some false) = some r := by rw [if_neg (show ¬ (false = true) by decide)] at H; exact H
            clear H
            have H := H1
            clear H1
            obtain rfl := Option.some.inj H
            have p130 : 0 ≤ (x43_3 : Int) := of_decide_eq_true (by first | (with_reducible assumption) | assumption)
            have q130 : x43_3 < (l0_3.length : Int) := of_decide_eq_true (by first | (with_reducible assumption) | assumption)
            obtain ⟨ad130, A130_3, c130_3, e130, hx130_0, hx130_1, hx130_2, hx130_3, hl130_3, hi130_3⟩ := at_T30 HR0_3.out x43_3 p130 q130
            cases e130
            replace hx130_0 := (HB.out.cell (World.block_lt_of_cell? w _ hx130_0)).trans hx130_0
            replace hx130_1 := (HB.out.cell (World.block_lt_of_cell? w _ hx130_1)).trans hx130_1
            replace hx130_2 := (HB.out.cell (World.block_lt_of_cell? w _ hx130_2)).trans hx130_2
            replace hx130_3 := (HB.out.cell (World.block_lt_of_cell? w _ hx130_3)).trans hx130_3
            have HR130_3 := Aside0.mk hi130_3
            have HC130_3 := Aside0.mk hl130_3
            clear hi130_3 hl130_3
            replace p130 := eq_true p130
            replace q130 := eq_true q130
            go_wp2_with (first | ((with_reducible refine gate_dst (N := 5) rfl ?_); (try (refine gate_guard (by rfl) ?_; dsimp only)); refine box_event ?hg (N := 5) ?hd (cs := #[.int .u8 0, .int .u64 0, .string (⟨#[]⟩ : ByteArray), .slice none 0 0]) (t := 30) ?hr ?_; (case hd => rfl); (case hg => rfl); (case hr => first | (go_simp; done) | (go_simp; rfl)); intro gb131 hg w33 hbox hb; have n0_ := Aside0.mk (blk_below (g := gb129) (o := .cells #[.int .u8 a0_0, .int .u64 a0_1, .string a0_2, .slice (some ad130) l0_3.length c0_3] 30 (0, 0)) (by (with_reducible repeat (first | refine blk_drewN ?_ _ | refine blk_drew ?_ | refine blk_alloc ?_ _)); exact BK129.out) hb); have n1_ := Aside0.mk (below_step (by repeat (first | (with_reducible first | exact HB.out | apply below_alloc | apply pw_below_drewN | apply below_drew1 | refine below_set ?_ GE129.out) | exact HB.out)) hb); have n2_ := Aside0.mk (hbox); have n3_ := Aside0.mk ((by rw [hg]; exact (below_size (by repeat (first | (with_reducible first | exact HB.out | apply below_alloc | apply pw_below_drewN | apply below_drew1 | refine below_set ?_ GE129.out) | exact HB.out))) : w.heap.size ≤ gb131)); have n4_ := Aside0.mk ((by rw [hg]; exact (below_size (by repeat (first | (with_reducible first | exact HB.out | apply below_alloc | apply pw_below_drewN | apply below_drew1 | refine below_set ?_ GE129.out) | exact HB.out))) : w.heap.size ≤ gb131)); have n5_ := Aside0.mk ((by rw [hg]; exact Nat.ne_of_lt (blk_lt (g := gb129) (o := .cells #[.int .u8 a0_0, .int .u64 a0_1, .string a0_2, .slice (some ad130) l0_3.length c0_3] 30 (0, 0)) (by (with_reducible repeat (first | refine blk_drewN ?_ _ | refine blk_drew ?_ | refine blk_alloc ?_ _)); exact BK129.out)) : gb129 ≠ gb131)); have n6_ := Aside0.mk ((by rw [hg]; exact Nat.ne_of_gt (blk_lt (g := gb129) (o := .cells #[.int .u8 a0_0, .int .u64 a0_1, .string a0_2, .slice (some ad130) l0_3.length c0_3] 30 (0, 0)) (by (with_reducible repeat (first | refine blk_drewN ?_ _ | refine blk_drew ?_ | refine blk_alloc ?_ _)); exact BK129.out)) : gb131 ≠ gb129)); clear BK129; clear HB; have BK129 := n0_; have HB := n1_; have BK131 := n2_; have GW131 := n3_; have GE131 := n4_; have NB129_131 := n5_; have NB131_129 := n6_; clear n0_ n1_ n2_ n3_ n4_ n5_ n6_; clear hb hbox hg; have hnb34 := NB131_129.out; have hnc34 := NB129_131.out; have hcz35_0 : w33.cell? ⟨gb131, 0, none⟩ = some (.int .u8 0) := (blk_cell BK131.out 0).trans rfl; have hcz35_1 : w33.cell? ⟨gb131, 1, none⟩ = some (.int .u64 0) := (blk_cell BK131.out 1).trans rfl; have hcz35_2 : w33.cell? ⟨gb131, 2, none⟩ = some (.string (⟨#[]⟩ : ByteArray)) := (blk_cell BK131.out 2).trans rfl; have hcz35_3 : w33.cell? ⟨gb131, 3, none⟩ = some (.slice none 0 0) := (blk_cell BK131.out 3).trans rfl; have hfz35_0 := blk_frozen BK131.out 0; have hfz35_1 := blk_frozen BK131.out 1; have hfz35_2 := blk_frozen BK131.out 2; have hfz35_3 := blk_frozen BK131.out 3) | ((with_reducible refine gate_callee (f := 8) rfl ?_); refine goesL_ (some 48) rfl rfl Tryd.func8 (by kernel_rfl) rfl #[.agg #[.int .u8 ((rd_T30 l0_3 x43_3).f0), .int .u64 ((rd_T30 l0_3 x43_3).f1), .string ((rd_T30 l0_3 x43_3).f2), .slice A130_3 ((rd_T30 l0_3 x43_3).f3).length c130_3]] rfl (by (try simp only [List.map_toArray, List.map_cons, List.map_nil]); first | done | rfl) ?_; (with_reducible refine (ih k3 (by have := HK1.out; have := HJ2.out; have := HK3.out; omega) ((rd_T30 l0_3 x43_3).f0) ((rd_T30 l0_3 x43_3).f1) ((rd_T30 l0_3 x43_3).f2) _ _ ((rd_T30 l0_3 x43_3).f3) false _ ?side1 ?side2 A27.out).mono ?_); (case side1 => exact Kd.C_below HR130_3.out (by repeat (first | (with_reducible first | exact HB.out | apply below_alloc | apply pw_below_drewN | apply below_drew1 | refine below_set ?_ GE129.out | refine below_set ?_ GE131.out) | exact HB.out))); (case side2 => exact HC130_3.out); rintro e w36 ⟨rfl, hb⟩; refine ⟨_, rfl, ?_⟩; have n0_ := Aside0.mk (blk_below (g := gb129) (o := .cells #[.int .u8 a0_0, .int .u64 a0_1, .string a0_2, .slice (some ad130) l0_3.length c0_3] 30 (0, 0)) (by (with_reducible repeat (first | refine blk_drewN ?_ _ | refine blk_drew ?_ | refine blk_alloc ?_ _)); refine blk_far ?_ NB129_131.out _; (with_reducible repeat (first | refine blk_drewN ?_ _ | refine blk_drew ?_ | refine blk_alloc ?_ _)); refine blk_far ?_ NB129_131.out _; (with_reducible repeat (first | refine blk_drewN ?_ _ | refine blk_drew ?_ | refine blk_alloc ?_ _)); refine blk_far ?_ NB129_131.out _; (with_reducible repeat (first | refine blk_drewN ?_ _ | refine blk_drew ?_ | refine blk_alloc ?_ _)); refine blk_far ?_ NB129_131.out _; (with_reducible repeat (first | refine blk_drewN ?_ _ | refine blk_drew ?_ | refine blk_alloc ?_ _)); exact BK129.out) hb); have n1_ := Aside0.mk (blk_below (g := gb131) (o := .cells #[.int .u8 ((rd_T30 l0_3 x43_3).f0), .int .u64 ((rd_T30 l0_3 x43_3).f1), .string ((rd_T30 l0_3 x43_3).f2), .slice A130_3 ((rd_T30 l0_3 x43_3).f3).length c130_3] 30 (0, 0)) (by (with_reducible repeat (first | refine blk_drewN ?_ _ | refine blk_drew ?_ | refine blk_alloc ?_ _)); refine blk_put (cs := #[.int .u8 ((rd_T30 l0_3 x43_3).f0), .int .u64 ((rd_T30 l0_3 x43_3).f1), .string ((rd_T30 l0_3 x43_3).f2), .slice none 0 0]) ?_ 3 _ rfl; (with_reducible repeat (first | refine blk_drewN ?_ _ | refine blk_drew ?_ | refine blk_alloc ?_ _)); refine blk_put (cs := #[.int .u8 ((rd_T30 l0_3 x43_3).f0), .int .u64 ((rd_T30 l0_3 x43_3).f1), .string (⟨#[]⟩ : ByteArray), .slice none 0 0]) ?_ 2 _ rfl; (with_reducible repeat (first | refine blk_drewN ?_ _ | refine blk_drew ?_ | refine blk_alloc ?_ _)); refine blk_put (cs := #[.int .u8 ((rd_T30 l0_3 x43_3).f0), .int .u64 0, .string (⟨#[]⟩ : ByteArray), .slice none 0 0]) ?_ 1 _ rfl; (with_reducible repeat (first | refine blk_drewN ?_ _ | refine blk_drew ?_ | refine blk_alloc ?_ _)); refine blk_put (cs := #[.int .u8 0, .int .u64 0, .string (⟨#[]⟩ : ByteArray), .slice none 0 0]) ?_ 0 _ rfl; (with_reducible repeat (first | refine blk_drewN ?_ _ | refine blk_drew ?_ | refine blk_alloc ?_ _)); exact BK131.out) hb); have n2_ := Aside0.mk (below_step (by repeat (first | (with_reducible first | exact HB.out | apply below_alloc | apply pw_below_drewN | apply below_drew1 | refine below_set ?_ GE129.out | refine below_set ?_ GE131.out) | exact HB.out)) hb); clear BK129; clear BK131; clear HB; have BK129 := n0_; have BK131 := n1_; have HB := n2_; clear n0_ n1_ n2_; (try clear hb); (try clear hb2); (try clear hk); (try clear hi)))
            go_ret
            exact ⟨by rfl, by repeat (first | (with_reducible first | exact HB.out | apply below_alloc | apply pw_below_drewN | apply below_drew1 | refine below_set ?_ GE129.out | refine below_set ?_ GE131.out) | exact HB.out)⟩
          ·rw [if_neg c26] at H
           exact absurd H (by simp)
         ·rw [if_neg c25] at H
          exact absurd H (by simp)
        ·rw [if_neg c24] at H
         have c24b0 : decide (x43_3 < (l0_3.length : Int)) = false := decide_eq_false c24
         clear c24
         obtain rfl := Option.some.inj H
         go_wp2
         go_ret
         exact ⟨by rfl, by repeat (first | (with_reducible first | exact HB.out | apply below_alloc | apply pw_below_drewN | apply below_drew1 | refine below_set ?_ GE129.out) | exact HB.out)⟩

def spec_SigsOf.l0 : Nat → ByteArray → List (S30) → Int → Int → Option (ByteArray)
 | 0, _, _, _, _ => none
 | k + 1, x3, x6, x7, x8 => if x8 < x7 then (if 0 ≤ x8 then (if x8 < (x6.length : Int) then ((spec_SigOf.f k ((rd_T30 x6 x8).f0) ((rd_T30 x6 x8).f1) ((rd_T30 x6 x8).f2) ((rd_T30 x6 x8).f3)).bind fun t135 => (if x3.size + t135.size ≤ 9223372036854775807 then (spec_SigsOf.l0 k (x3 ++ t135) x6 x7 (wrap64 (x8 + 1))) else (none))) else (none)) else (none)) else (some x3)
def spec_SigsOf.f (k : Nat) (l0 : List (S30)) : Option (ByteArray) := spec_SigsOf.l0 k (⟨#[]⟩ : ByteArray) l0 (l0.length : Int) 0
theorem spec_SigsOf.mono_l : ∀ k, (∀ y0 y1 y2 y3, LeO (spec_SigsOf.l0 k y0 y1 y2 y3) (spec_SigsOf.l0 (k + 1) y0 y1 y2 y3))
 | 0 => fun _ _ _ _ r h => by simp [spec_SigsOf.l0] at h
 | k + 1 => by
  have ih0 := spec_SigsOf.mono_l k
  ·intro y0 y1 y2 y3
   unfold spec_SigsOf.l0
   repeat' first
   | (with_reducible exact ih0 _ _ _ _)
   | (with_reducible exact spec_SigOf.mono _ _ _ _ _)
   | (with_reducible exact LeO.refl _)
   | (with_reducible exact LeO.none _)
   | (with_reducible refine LeO.ite ?_ ?_)
   | (with_reducible refine LeO.bind ?_ (fun _ => ?_))
   | exact ih0 _ _ _ _
   | exact spec_SigOf.mono _ _ _ _ _
   | exact LeO.none _
   | refine LeO.ite ?_ ?_
   | refine LeO.bind ?_ (fun _ => ?_)
theorem spec_SigsOf.mono : ∀ a0 k, LeO (spec_SigsOf.f k a0) (spec_SigsOf.f (k + 1) a0) := by
 intro a0 k
 have ih0 := spec_SigsOf.mono_l k
 unfold spec_SigsOf.f
 repeat' first
   | (with_reducible exact ih0 _ _ _ _)
   | (with_reducible exact spec_SigOf.mono _ _ _ _ _)
   | (with_reducible exact LeO.refl _)
   | (with_reducible exact LeO.none _)
   | (with_reducible refine LeO.ite ?_ ?_)
   | (with_reducible refine LeO.bind ?_ (fun _ => ?_))
   | exact ih0 _ _ _ _
   | exact spec_SigOf.mono _ _ _ _ _
   | exact LeO.none _
   | refine LeO.ite ?_ ?_
   | refine LeO.bind ?_ (fun _ => ?_)
set_option maxHeartbeats 8000000 in
set_option maxRecDepth 100000 in
theorem spec_SigsOf.calls (k : Nat) (A0 : Option Addr) (c0 : Nat) (l0 : List (S30)) (r : ByteArray) (w : World) (hr0 : Kd.C k30 w A0 l0.length l0) (hc0 : l0.length ≤ c0) (h : spec_SigsOf.f k l0 = some r) :
  Calls Tryd.prog 15 #[.slice A0 l0.length c0] w fun e w' => e = .returned (.string r) ∧ Below w.heap.size w w' := by
 have hu30 := Tryd.underlying30
 have HR0 := Aside0.mk hr0
 have HC0 := Aside0.mk hc0
 clear hr0 hc0
 have HB := Aside0.mk (Below.refl w.heap.size w)
 have H : (spec_SigsOf.l0 k (⟨#[]⟩ : ByteArray) l0 (l0.length : Int) 0) = some r := h
 clear h
 have H' := Aside0.mk H
 clear H
 go_enter Tryd.func15, Tryd.ntmps15
 go_wp2
 go_loopg [3, 8] k (fun kq v3 v8 w' => ∃ (x3_1 : ByteArray) (x8_1 : Int), v3 = .string x3_1 ∧ v8 = .int .i64 x8_1 ∧ Aside0 (spec_SigsOf.l0 kq x3_1 l0 (l0.length : Int) x8_1 = some r) ∧ Aside0 (kq ≤ k) ∧ Aside0 (Below w.heap.size w w'))
 case atStart => exact ⟨((⟨#[]⟩ : ByteArray)), (0), (by first | rfl | (simp; done) | (simp [*]; done)), (by first | rfl | (simp; done) | (simp [*]; done)), H', ⟨Nat.le_refl _⟩, ⟨by repeat (first | (with_reducible first | exact HB.out | apply below_alloc | apply pw_below_drewN | apply below_drew1) | exact HB.out)⟩⟩
 case round =>
  clear H'
  (try clear c1)
  obtain ⟨x3_1, x8_1, rfl, rfl, HA, HK1, HB⟩ := hrel
  cases gk with
  | zero => exact absurd HA.out (by simp [spec_SigsOf.l0])
  | succ k1 =>
   have H := HA.out
   clear HA
   simp only [spec_SigsOf.l0] at H
   by_cases c2 : x8_1 < (l0.length : Int)
   ·rw [if_pos c2] at H
    have c2b0 : decide (x8_1 < (l0.length : Int)) = true := decide_eq_true c2
    clear c2
    by_cases c3 : 0 ≤ x8_1
    ·rw [if_pos c3] at H
     have c3b0 : decide (0 ≤ x8_1) = true := decide_eq_true c3
     clear c3
     by_cases c4 : x8_1 < (l0.length : Int)
     ·rw [if_pos c4] at H
      have c4b0 : decide (x8_1 < (l0.length : Int)) = true := decide_eq_true c4
      clear c4
      replace H := Option.bind_eq_some_iff.mp H
      obtain ⟨t135, A50, H⟩ := H
      replace H : (if x3_1.size + t135.size ≤ 9223372036854775807 then (spec_SigsOf.l0 k1 (x3_1 ++ t135) l0 (l0.length : Int) (wrap64 (x8_1 + 1))) else (none)) = some r := H
      have A5 := Aside0.mk A50
      clear A50
      by_cases c6 : x3_1.size + t135.size ≤ 9223372036854775807
      ·rw [if_pos c6] at H
       have c6b0 := eq_true c6
       have c6b1 : decide (x3_1.size + t135.size ≤ 9223372036854775807) = true := decide_eq_true c6
       try have c6b2 : (9223372036854775807 < x3_1.size + t135.size) = False := eq_false (Nat.not_lt.2 c6)
       try (have c6b3 := c6b2; simp only [ByteArray.size_append] at c6b3)
       try (have c6b4 := c6b3; simp only [show ∀ c : UInt8, (ByteArray.mk #[c]).size = 1 from fun _ => rfl] at c6b4)
       have H' := Aside0.mk H
       clear H
       have p133 : 0 ≤ (x8_1 : Int) := of_decide_eq_true (by first | (with_reducible assumption) | assumption)
       have q133 : x8_1 < (l0.length : Int) := of_decide_eq_true (by first | (with_reducible assumption) | assumption)
       obtain ⟨ad133, A133_3, c133_3, e133, hx133_0, hx133_1, hx133_2, hx133_3, hl133_3, hi133_3⟩ := at_T30 HR0.out x8_1 p133 q133
       cases e133
       replace hx133_0 := (HB.out.cell (World.block_lt_of_cell? w _ hx133_0)).trans hx133_0
       replace hx133_1 := (HB.out.cell (World.block_lt_of_cell? w _ hx133_1)).trans hx133_1
       replace hx133_2 := (HB.out.cell (World.block_lt_of_cell? w _ hx133_2)).trans hx133_2
       replace hx133_3 := (HB.out.cell (World.block_lt_of_cell? w _ hx133_3)).trans hx133_3
       have HR133_3 := Aside0.mk hi133_3
       have HC133_3 := Aside0.mk hl133_3
       clear hi133_3 hl133_3
       replace p133 := eq_true p133
       replace q133 := eq_true q133
       go_wp2_with (first | ((with_reducible refine gate_dst (N := 5) rfl ?_); refine box_event ?hg (N := 5) ?hd (cs := #[.int .u8 0, .int .u64 0, .string (⟨#[]⟩ : ByteArray), .slice none 0 0]) (t := 30) ?hr ?_; (case hd => rfl); (case hg => rfl); (case hr => first | (go_simp; done) | (go_simp; rfl)); intro gb134 hg w7 hbox hb; have n0_ := Aside0.mk (below_step (by repeat (first | (with_reducible first | exact HB.out | apply below_alloc | apply pw_below_drewN | apply below_drew1) | exact HB.out)) hb); have n1_ := Aside0.mk (hbox); have n2_ := Aside0.mk ((by rw [hg]; exact (below_size (by repeat (first | (with_reducible first | exact HB.out | apply below_alloc | apply pw_below_drewN | apply below_drew1) | exact HB.out))) : w.heap.size ≤ gb134)); have n3_ := Aside0.mk ((by rw [hg]; exact (below_size (by repeat (first | (with_reducible first | exact HB.out | apply below_alloc | apply pw_below_drewN | apply below_drew1) | exact HB.out))) : w.heap.size ≤ gb134)); clear HB; have HB := n0_; have BK134 := n1_; have GW134 := n2_; have GE134 := n3_; clear n0_ n1_ n2_ n3_; clear hb hbox hg; have hcz8_0 : w7.cell? ⟨gb134, 0, none⟩ = some (.int .u8 0) := (blk_cell BK134.out 0).trans rfl; have hcz8_1 : w7.cell? ⟨gb134, 1, none⟩ = some (.int .u64 0) := (blk_cell BK134.out 1).trans rfl; have hcz8_2 : w7.cell? ⟨gb134, 2, none⟩ = some (.string (⟨#[]⟩ : ByteArray)) := (blk_cell BK134.out 2).trans rfl; have hcz8_3 : w7.cell? ⟨gb134, 3, none⟩ = some (.slice none 0 0) := (blk_cell BK134.out 3).trans rfl; have hfz8_0 := blk_frozen BK134.out 0; have hfz8_1 := blk_frozen BK134.out 1; have hfz8_2 := blk_frozen BK134.out 2; have hfz8_3 := blk_frozen BK134.out 3) | ((with_reducible refine gate_callee (f := 13) rfl ?_); refine goesL_ (some 14) rfl rfl Tryd.func13 (by kernel_rfl) rfl #[.agg #[.int .u8 ((rd_T30 l0 x8_1).f0), .int .u64 ((rd_T30 l0 x8_1).f1), .string ((rd_T30 l0 x8_1).f2), .slice A133_3 ((rd_T30 l0 x8_1).f3).length c133_3]] rfl (by (try simp only [List.map_toArray, List.map_cons, List.map_nil]); first | done | rfl) ?_; (with_reducible refine (spec_SigOf.calls k1 ((rd_T30 l0 x8_1).f0) ((rd_T30 l0 x8_1).f1) ((rd_T30 l0 x8_1).f2) _ _ ((rd_T30 l0 x8_1).f3) t135 _ ?side1 ?side2 A5.out).mono ?_); (case side1 => exact Kd.C_below HR133_3.out (by repeat (first | (with_reducible first | exact HB.out | apply below_alloc | apply pw_below_drewN | apply below_drew1 | refine below_set ?_ GE134.out) | exact HB.out))); (case side2 => exact HC133_3.out); rintro e w9 ⟨rfl, hb⟩; refine ⟨_, rfl, ?_⟩; have n0_ := Aside0.mk (blk_below (g := gb134) (o := .cells #[.int .u8 ((rd_T30 l0 x8_1).f0), .int .u64 ((rd_T30 l0 x8_1).f1), .string ((rd_T30 l0 x8_1).f2), .slice A133_3 ((rd_T30 l0 x8_1).f3).length c133_3] 30 (0, 0)) (by (with_reducible repeat (first | refine blk_drewN ?_ _ | refine blk_drew ?_ | refine blk_alloc ?_ _)); refine blk_put (cs := #[.int .u8 ((rd_T30 l0 x8_1).f0), .int .u64 ((rd_T30 l0 x8_1).f1), .string ((rd_T30 l0 x8_1).f2), .slice none 0 0]) ?_ 3 _ rfl; (with_reducible repeat (first | refine blk_drewN ?_ _ | refine blk_drew ?_ | refine blk_alloc ?_ _)); refine blk_put (cs := #[.int .u8 ((rd_T30 l0 x8_1).f0), .int .u64 ((rd_T30 l0 x8_1).f1), .string (⟨#[]⟩ : ByteArray), .slice none 0 0]) ?_ 2 _ rfl; (with_reducible repeat (first | refine blk_drewN ?_ _ | refine blk_drew ?_ | refine blk_alloc ?_ _)); refine blk_put (cs := #[.int .u8 ((rd_T30 l0 x8_1).f0), .int .u64 0, .string (⟨#[]⟩ : ByteArray), .slice none 0 0]) ?_ 1 _ rfl; (with_reducible repeat (first | refine blk_drewN ?_ _ | refine blk_drew ?_ | refine blk_alloc ?_ _)); refine blk_put (cs := #[.int .u8 0, .int .u64 0, .string (⟨#[]⟩ : ByteArray), .slice none 0 0]) ?_ 0 _ rfl; (with_reducible repeat (first | refine blk_drewN ?_ _ | refine blk_drew ?_ | refine blk_alloc ?_ _)); exact BK134.out) hb); have n1_ := Aside0.mk (below_step (by repeat (first | (with_reducible first | exact HB.out | apply below_alloc | apply pw_below_drewN | apply below_drew1 | refine below_set ?_ GE134.out) | exact HB.out)) hb); clear BK134; clear HB; have BK134 := n0_; have HB := n1_; clear n0_ n1_; (try clear hb); (try clear hb2); (try clear hk); (try clear hi)))
       go_roundg k1
       case measure => have := HK1.out; omega
       case rel => exact ⟨(x3_1 ++ t135), (wrap64 (x8_1 + 1)), (by first | rfl | (simp; done) | (simp [*]; done)), (by first | rfl | (simp; done) | (simp [*]; done)), H', ⟨by have := HK1.out; omega⟩, ⟨by repeat (first | (with_reducible first | exact HB.out | apply below_alloc | apply pw_below_drewN | apply below_drew1 | refine below_set ?_ GE134.out) | exact HB.out)⟩⟩
      ·rw [if_neg c6] at H
       exact absurd H (by simp)
     ·rw [if_neg c4] at H
      exact absurd H (by simp)
    ·rw [if_neg c3] at H
     exact absurd H (by simp)
   ·rw [if_neg c2] at H
    have c2b0 : decide (x8_1 < (l0.length : Int)) = false := decide_eq_false c2
    clear c2
    obtain rfl := Option.some.inj H
    go_wp2
    go_ret
    exact ⟨by rfl, by repeat (first | (with_reducible first | exact HB.out | apply below_alloc | apply pw_below_drewN | apply below_drew1) | exact HB.out)⟩

end Go.Proofs.YtoaehanfknjngaaDoor.Q
