-- Written by a program of this session out of the translation; Lean checks it.
import Derived.Test.YtoldgnmgjpjapaaDoorQ0
namespace Go.Proofs.YtoldgnmgjpjapaaDoor.Q
open Go.RowKit Go.Proofs.YtoldgnmgjpjapaaDoorW.PrintWords Go.Proofs.YtoldgnmgjpjapaaDoorW.PrintLast Go.Proofs.YtoldgnmgjpjapaaDoor.Gt
set_option linter.unusedVariables false
set_option linter.unusedSimpArgs false

/-! ### laws_mtPlain: function 7 -/
mutual
def laws_mtPlain.l0 : Nat → List (S32) → List (S32) → Int → Int → Option (Bool)
 | 0, _, _, _, _ => none
 | k + 1, x0, x7, x8, x9 => if x9 < x8 then (if 0 ≤ x9 then (if x9 < (x7.length : Int) then (if (((rd_T32 x7 x9).f0).size : Int) > 300 then (laws_mtPlain.j1 k x0 x7 x8 x9 true ((rd_T32 x7 x9).f0) ((rd_T32 x7 x9).f1)) else (laws_mtPlain.j1 k x0 x7 x8 x9 (decide ((((rd_T32 x7 x9).f1).size : Int) > 300)) ((rd_T32 x7 x9).f0) ((rd_T32 x7 x9).f1))) else (none)) else (none)) else (some (decide ((x0.length : Int) ≤ 40)))
def laws_mtPlain.j1 : Nat → List (S32) → List (S32) → Int → Int → Bool → ByteArray → ByteArray → Option (Bool)
 | 0, _, _, _, _, _, _, _ => none
 | k + 1, x0, x7, x8, x9, x22, x131000, x131001 => if x22 = true then (some false) else (laws_mtPlain.l1 k x0 0 x7 x8 x9 x131000 x131001)
def laws_mtPlain.l1 : Nat → List (S32) → Int → List (S32) → Int → Int → ByteArray → ByteArray → Option (Bool)
 | 0, _, _, _, _, _, _, _ => none
 | k + 1, x0, x5, x7, x8, x9, x131000, x131001 => if x5 < (x131000.size : Int) then (if 0 ≤ x5 then (if (bt x131000 x5) = 61 then (some false) else (if (bt x131000 x5) = 44 then (some false) else (if (bt x131000 x5) = 39 then (some false) else (laws_mtPlain.l1 k x0 (wrap64 (x5 + 1)) x7 x8 x9 x131000 x131001)))) else (none)) else (laws_mtPlain.l2 k x0 0 x7 x8 x9 x131000 x131001)
def laws_mtPlain.l2 : Nat → List (S32) → Int → List (S32) → Int → Int → ByteArray → ByteArray → Option (Bool)
 | 0, _, _, _, _, _, _, _ => none
 | k + 1, x0, x6, x7, x8, x9, x131000, x131001 => if x6 < (x131001.size : Int) then (if 0 ≤ x6 then (if (bt x131001 x6) = 39 then (some false) else (laws_mtPlain.l2 k x0 (wrap64 (x6 + 1)) x7 x8 x9 x131000 x131001)) else (none)) else (laws_mtPlain.l0 k x0 x7 x8 (wrap64 (x9 + 1)))
end
def laws_mtPlain.f (k : Nat) (l0 : List (S32)) : Option (Bool) := laws_mtPlain.l0 k l0 l0 (l0.length : Int) 0
theorem laws_mtPlain.mono_l : ∀ k, (∀ y0 y1 y2 y3, LeO (laws_mtPlain.l0 k y0 y1 y2 y3) (laws_mtPlain.l0 (k + 1) y0 y1 y2 y3)) ∧ (∀ y0 y1 y2 y3 y4 y5 y6, LeO (laws_mtPlain.j1 k y0 y1 y2 y3 y4 y5 y6) (laws_mtPlain.j1 (k + 1) y0 y1 y2 y3 y4 y5 y6)) ∧ (∀ y0 y1 y2 y3 y4 y5 y6, LeO (laws_mtPlain.l1 k y0 y1 y2 y3 y4 y5 y6) (laws_mtPlain.l1 (k + 1) y0 y1 y2 y3 y4 y5 y6)) ∧ (∀ y0 y1 y2 y3 y4 y5 y6, LeO (laws_mtPlain.l2 k y0 y1 y2 y3 y4 y5 y6) (laws_mtPlain.l2 (k + 1) y0 y1 y2 y3 y4 y5 y6))
 | 0 => ⟨fun _ _ _ _ r h => by simp [laws_mtPlain.l0] at h, fun _ _ _ _ _ _ _ r h => by simp [laws_mtPlain.j1] at h, fun _ _ _ _ _ _ _ r h => by simp [laws_mtPlain.l1] at h, fun _ _ _ _ _ _ _ r h => by simp [laws_mtPlain.l2] at h⟩
 | k + 1 => by
  obtain ⟨ih0, ih1, ih2, ih3⟩ := laws_mtPlain.mono_l k
  refine ⟨?_, ?_, ?_, ?_⟩
  ·intro y0 y1 y2 y3
   unfold laws_mtPlain.l0
   repeat' first
   | (with_reducible exact ih0 _ _ _ _)
   | (with_reducible exact ih1 _ _ _ _ _ _ _)
   | (with_reducible exact ih2 _ _ _ _ _ _ _)
   | (with_reducible exact ih3 _ _ _ _ _ _ _)
   | (with_reducible exact LeO.refl _)
   | (with_reducible exact LeO.none _)
   | (with_reducible refine LeO.ite ?_ ?_)
   | (with_reducible refine LeO.bind ?_ (fun _ => ?_))
   | exact ih0 _ _ _ _
   | exact ih1 _ _ _ _ _ _ _
   | exact ih2 _ _ _ _ _ _ _
   | exact ih3 _ _ _ _ _ _ _
   | exact LeO.none _
   | refine LeO.ite ?_ ?_
   | refine LeO.bind ?_ (fun _ => ?_)
  ·intro y0 y1 y2 y3 y4 y5 y6
   unfold laws_mtPlain.j1
   repeat' first
   | (with_reducible exact ih0 _ _ _ _)
   | (with_reducible exact ih1 _ _ _ _ _ _ _)
   | (with_reducible exact ih2 _ _ _ _ _ _ _)
   | (with_reducible exact ih3 _ _ _ _ _ _ _)
   | (with_reducible exact LeO.refl _)
   | (with_reducible exact LeO.none _)
   | (with_reducible refine LeO.ite ?_ ?_)
   | (with_reducible refine LeO.bind ?_ (fun _ => ?_))
   | exact ih0 _ _ _ _
   | exact ih1 _ _ _ _ _ _ _
   | exact ih2 _ _ _ _ _ _ _
   | exact ih3 _ _ _ _ _ _ _
   | exact LeO.none _
   | refine LeO.ite ?_ ?_
   | refine LeO.bind ?_ (fun _ => ?_)
  ·intro y0 y1 y2 y3 y4 y5 y6
   unfold laws_mtPlain.l1
   repeat' first
   | (with_reducible exact ih0 _ _ _ _)
   | (with_reducible exact ih1 _ _ _ _ _ _ _)
   | (with_reducible exact ih2 _ _ _ _ _ _ _)
   | (with_reducible exact ih3 _ _ _ _ _ _ _)
   | (with_reducible exact LeO.refl _)
   | (with_reducible exact LeO.none _)
   | (with_reducible refine LeO.ite ?_ ?_)
   | (with_reducible refine LeO.bind ?_ (fun _ => ?_))
   | exact ih0 _ _ _ _
   | exact ih1 _ _ _ _ _ _ _
   | exact ih2 _ _ _ _ _ _ _
   | exact ih3 _ _ _ _ _ _ _
   | exact LeO.none _
   | refine LeO.ite ?_ ?_
   | refine LeO.bind ?_ (fun _ => ?_)
  ·intro y0 y1 y2 y3 y4 y5 y6
   unfold laws_mtPlain.l2
   repeat' first
   | (with_reducible exact ih0 _ _ _ _)
   | (with_reducible exact ih1 _ _ _ _ _ _ _)
   | (with_reducible exact ih2 _ _ _ _ _ _ _)
   | (with_reducible exact ih3 _ _ _ _ _ _ _)
   | (with_reducible exact LeO.refl _)
   | (with_reducible exact LeO.none _)
   | (with_reducible refine LeO.ite ?_ ?_)
   | (with_reducible refine LeO.bind ?_ (fun _ => ?_))
   | exact ih0 _ _ _ _
   | exact ih1 _ _ _ _ _ _ _
   | exact ih2 _ _ _ _ _ _ _
   | exact ih3 _ _ _ _ _ _ _
   | exact LeO.none _
   | refine LeO.ite ?_ ?_
   | refine LeO.bind ?_ (fun _ => ?_)
theorem laws_mtPlain.mono : ∀ a0 k, LeO (laws_mtPlain.f k a0) (laws_mtPlain.f (k + 1) a0) := by
 intro a0 k
 obtain ⟨ih0, ih1, ih2, ih3⟩ := laws_mtPlain.mono_l k
 unfold laws_mtPlain.f
 repeat' first
   | (with_reducible exact ih0 _ _ _ _)
   | (with_reducible exact ih1 _ _ _ _ _ _ _)
   | (with_reducible exact ih2 _ _ _ _ _ _ _)
   | (with_reducible exact ih3 _ _ _ _ _ _ _)
   | (with_reducible exact LeO.refl _)
   | (with_reducible exact LeO.none _)
   | (with_reducible refine LeO.ite ?_ ?_)
   | (with_reducible refine LeO.bind ?_ (fun _ => ?_))
   | exact ih0 _ _ _ _
   | exact ih1 _ _ _ _ _ _ _
   | exact ih2 _ _ _ _ _ _ _
   | exact ih3 _ _ _ _ _ _ _
   | exact LeO.none _
   | refine LeO.ite ?_ ?_
   | refine LeO.bind ?_ (fun _ => ?_)
set_option maxHeartbeats 8000000 in
set_option maxRecDepth 100000 in
theorem laws_mtPlain.calls (k : Nat) (A0 : Option Addr) (c0 : Nat) (l0 : List (S32)) (r : Bool) (w : World) (hr0 : Kd.C k32 w A0 l0.length l0) (hc0 : l0.length ≤ c0) (h : laws_mtPlain.f k l0 = some r) :
  Calls Tryd.prog 7 #[.slice A0 l0.length c0] w fun e w' => e = .returned (.bool r) ∧ Below w.heap.size w w' := by
 have hu32 := Tryd.underlying32
 have HR0 := Aside0.mk hr0
 have HC0 := Aside0.mk hc0
 clear hr0 hc0
 have HB := Aside0.mk (Below.refl w.heap.size w)
 have H : (laws_mtPlain.l0 k l0 l0 (l0.length : Int) 0) = some r := h
 clear h
 have H' := Aside0.mk H
 clear H
 go_enter Tryd.func7, Tryd.ntmps7
 go_wp2
 go_loopg [9] k (fun kq v9 w' => ∃ (x9_1 : Int), v9 = .int .i64 x9_1 ∧ Aside0 (laws_mtPlain.l0 kq l0 l0 (l0.length : Int) x9_1 = some r) ∧ Aside0 (kq ≤ k) ∧ Aside0 (Below w.heap.size w w'))
 case atStart => exact ⟨(0), (by first | rfl | (simp; done) | (simp [*]; done)), H', ⟨Nat.le_refl _⟩, ⟨by repeat (first | (with_reducible first | exact HB.out | apply below_alloc | apply pw_below_drewN | apply below_drew1) | exact HB.out)⟩⟩
 case round =>
  clear H'
  obtain ⟨x9_1, rfl, HA, HK1, HB⟩ := hrel
  cases gk with
  | zero => exact absurd HA.out (by simp [laws_mtPlain.l0])
  | succ k1 =>
   have H := HA.out
   clear HA
   simp only [laws_mtPlain.l0] at H
   by_cases c2 : x9_1 < (l0.length : Int)
   ·rw [if_pos c2] at H
    have c2b0 : decide (x9_1 < (l0.length : Int)) = true := decide_eq_true c2
    clear c2
    by_cases c3 : 0 ≤ x9_1
    ·rw [if_pos c3] at H
     have c3b0 : decide (0 ≤ x9_1) = true := decide_eq_true c3
     clear c3
     by_cases c4 : x9_1 < (l0.length : Int)
     ·rw [if_pos c4] at H
      have c4b0 : decide (x9_1 < (l0.length : Int)) = true := decide_eq_true c4
      clear c4
      have HC5 := Aside0.mk H
      clear H
      have p129 : 0 ≤ (x9_1 : Int) := of_decide_eq_true (by first | (with_reducible assumption) | assumption)
      have q129 : x9_1 < (l0.length : Int) := of_decide_eq_true (by first | (with_reducible assumption) | assumption)
      obtain ⟨ad129, e129, hx129_0, hx129_1⟩ := at_T32 HR0.out x9_1 p129 q129
      cases e129
      replace hx129_0 := (HB.out.cell (World.block_lt_of_cell? w _ hx129_0)).trans hx129_0
      replace hx129_1 := (HB.out.cell (World.block_lt_of_cell? w _ hx129_1)).trans hx129_1
      replace p129 := eq_true p129
      replace q129 := eq_true q129
      go_upto_region 4 with (first | ((with_reducible refine gate_dst (N := 4) rfl ?_); (try (refine gate_guard (by rfl) ?_; dsimp only)); refine box_event ?hg (N := 4) ?hd (cs := #[.string (⟨#[]⟩ : ByteArray), .string (⟨#[]⟩ : ByteArray)]) (t := 32) ?hr ?_; (case hd => rfl); (case hg => rfl); (case hr => first | (go_simp; done) | (go_simp; rfl)); intro gb130 hg w6 hbox hb; have n0_ := Aside0.mk (below_step (by repeat (first | (with_reducible first | exact HB.out | apply below_alloc | apply pw_below_drewN | apply below_drew1) | exact HB.out)) hb); have n1_ := Aside0.mk (hbox); have n2_ := Aside0.mk ((by rw [hg]; exact (below_size (by repeat (first | (with_reducible first | exact HB.out | apply below_alloc | apply pw_below_drewN | apply below_drew1) | exact HB.out))) : w.heap.size ≤ gb130)); have n3_ := Aside0.mk ((by rw [hg]; exact (below_size (by repeat (first | (with_reducible first | exact HB.out | apply below_alloc | apply pw_below_drewN | apply below_drew1) | exact HB.out))) : w.heap.size ≤ gb130)); clear HB; have HB := n0_; have BK130 := n1_; have GW130 := n2_; have GE130 := n3_; clear n0_ n1_ n2_ n3_; clear hb hbox hg; have hcz7_0 : w6.cell? ⟨gb130, 0, none⟩ = some (.string (⟨#[]⟩ : ByteArray)) := (blk_cell BK130.out 0).trans rfl; have hcz7_1 : w6.cell? ⟨gb130, 1, none⟩ = some (.string (⟨#[]⟩ : ByteArray)) := (blk_cell BK130.out 1).trans rfl; have hfz7_0 := blk_frozen BK130.out 0; have hfz7_1 := blk_frozen BK130.out 1))
      (try simp only [Act.put, List.setIfInBounds_toArray, List.set_cons_zero, List.set_cons_succ])
      go_cut [22] (fun v22 wc => ∃ (kq : Nat) (x22_4 : Bool), v22 = .bool x22_4 ∧ Aside0 (laws_mtPlain.j1 kq l0 l0 (l0.length : Int) x9_1 x22_4 ((rd_T32 l0 x9_1).f0) ((rd_T32 l0 x9_1).f1) = some r) ∧ Aside0 (kq ≤ k1) ∧ Aside0 (wc.heap[gb130]? = some (.cells #[.string ((rd_T32 l0 x9_1).f0), .string ((rd_T32 l0 x9_1).f1)] 32 (0, 0))) ∧ Aside0 (Below w.heap.size w wc))
      case first =>
       have H := HC5.out
       clear HC5
       by_cases c8 : (((rd_T32 l0 x9_1).f0).size : Int) > 300
       ·rw [if_pos c8] at H
        have c8b0 : decide (300 < (((rd_T32 l0 x9_1).f0).size : Int)) = true := decide_eq_true c8
        have c8b1 : decide (300 < ((rd_T32 l0 x9_1).f0).size) = true := decide_eq_true (by omega)
        clear c8
        (first | rw [c8b0] | (simp only [i64_w, i32_w]; rw [c8b0]) | skip)
        have H' := Aside0.mk H
        clear H
        have hcz9_0 : w6.cell? ⟨gb130, 0, none⟩ = some (.string (⟨#[]⟩ : ByteArray)) := (blk_cell BK130.out 0).trans rfl
        have hcz9_1 : w6.cell? ⟨gb130, 1, none⟩ = some (.string (⟨#[]⟩ : ByteArray)) := (blk_cell BK130.out 1).trans rfl
        have hfz9_0 := blk_frozen BK130.out 0
        have hfz9_1 := blk_frozen BK130.out 1
        go_wp2
        go_meet
        case rel => exact ⟨_, (true), (by first | rfl | (simp; done) | (simp [*]; done)), H', ⟨by have := HK1.out; first | omega | exact Nat.le_refl _⟩, ⟨by (with_reducible repeat (first | refine blk_drewN ?_ _ | refine blk_drew ?_ | refine blk_alloc ?_ _)); refine blk_put (cs := #[.string ((rd_T32 l0 x9_1).f0), .string (⟨#[]⟩ : ByteArray)]) ?_ 1 _ rfl; (with_reducible repeat (first | refine blk_drewN ?_ _ | refine blk_drew ?_ | refine blk_alloc ?_ _)); refine blk_put (cs := #[.string (⟨#[]⟩ : ByteArray), .string (⟨#[]⟩ : ByteArray)]) ?_ 0 _ rfl; (with_reducible repeat (first | refine blk_drewN ?_ _ | refine blk_drew ?_ | refine blk_alloc ?_ _)); exact BK130.out⟩, ⟨by repeat (first | (with_reducible first | exact HB.out | apply below_alloc | apply pw_below_drewN | apply below_drew1 | refine below_set ?_ GE130.out) | exact HB.out)⟩⟩
       ·rw [if_neg c8] at H
        have c8b0 : decide (300 < (((rd_T32 l0 x9_1).f0).size : Int)) = false := decide_eq_false c8
        have c8b1 : decide (300 < ((rd_T32 l0 x9_1).f0).size) = false := decide_eq_false (by omega)
        clear c8
        (first | rw [c8b0] | (simp only [i64_w, i32_w]; rw [c8b0]) | skip)
        have H' := Aside0.mk H
        clear H
        have hcz10_0 : w6.cell? ⟨gb130, 0, none⟩ = some (.string (⟨#[]⟩ : ByteArray)) := (blk_cell BK130.out 0).trans rfl
        have hcz10_1 : w6.cell? ⟨gb130, 1, none⟩ = some (.string (⟨#[]⟩ : ByteArray)) := (blk_cell BK130.out 1).trans rfl
        have hfz10_0 := blk_frozen BK130.out 0
        have hfz10_1 := blk_frozen BK130.out 1
        go_wp2
        go_meet
        case rel => exact ⟨_, (decide ((((rd_T32 l0 x9_1).f1).size : Int) > 300)), (by first | rfl | (simp; done) | (simp [*]; done)), H', ⟨by have := HK1.out; first | omega | exact Nat.le_refl _⟩, ⟨by (with_reducible repeat (first | refine blk_drewN ?_ _ | refine blk_drew ?_ | refine blk_alloc ?_ _)); refine blk_put (cs := #[.string ((rd_T32 l0 x9_1).f0), .string (⟨#[]⟩ : ByteArray)]) ?_ 1 _ rfl; (with_reducible repeat (first | refine blk_drewN ?_ _ | refine blk_drew ?_ | refine blk_alloc ?_ _)); refine blk_put (cs := #[.string (⟨#[]⟩ : ByteArray), .string (⟨#[]⟩ : ByteArray)]) ?_ 0 _ rfl; (with_reducible repeat (first | refine blk_drewN ?_ _ | refine blk_drew ?_ | refine blk_alloc ?_ _)); exact BK130.out⟩, ⟨by repeat (first | (with_reducible first | exact HB.out | apply below_alloc | apply pw_below_drewN | apply below_drew1 | refine below_set ?_ GE130.out) | exact HB.out)⟩⟩
      case rest =>
       clear HC5
       try clear p1
       try clear q1
       try clear hx1
       try clear c2
       try clear c2b0
       try clear p2
       try clear c3
       try clear c3b0
       try clear c4
       try clear c4b0
       try clear c7
       try clear c8
       try clear c8b0
       try clear c8b1
       try clear hcz10_0
       try clear hcz10_1
       try clear hcz7_0
       try clear hcz7_1
       try clear hcz9_0
       try clear hcz9_1
       try clear hfz10_0
       try clear hfz10_1
       try clear hfz7_0
       try clear hfz7_1
       try clear hfz9_0
       try clear hfz9_1
       try clear hx129_0
       try clear hx129_1
       try clear p129
       try clear q129
       obtain ⟨kq, x22_4, rfl, HA, HJ4, BK130, HB⟩ := hcut
       cases kq with
       | zero => exact absurd HA.out (by simp [laws_mtPlain.j1])
       | succ kj4 =>
        have H := HA.out
        clear HA
        simp only [laws_mtPlain.j1] at H
        by_cases c11 : x22_4 = true
        ·subst c11
         have H1 : (some false) = some r := by rw [if_pos rfl] at H; exact H
         clear H
         have H := H1
         clear H1
         obtain rfl := Option.some.inj H
         go_wp2
         go_ret
         exact ⟨by first | rfl | (simp [errW_none, errW_some] <;> rfl) | (simp [*, errW_none, errW_some] <;> rfl), by repeat (first | (with_reducible first | exact HB.out | apply below_alloc | apply pw_below_drewN | apply below_drew1 | refine below_set ?_ GE130.out) | exact HB.out)⟩
        ·replace c11 := Bool.eq_false_iff.mpr c11
         subst c11
         have H1 : (laws_mtPlain.l1 kj4 l0 0 l0 (l0.length : Int) x9_1 ((rd_T32 l0 x9_1).f0) ((rd_T32 l0 x9_1).f1)) = some r := by rw [if_neg (show ¬ (false = true) by decide)] at H; exact H
         clear H
         have H := H1
         clear H1
         have H' := Aside0.mk H
         clear H
         go_wp2
         go_loopg [5] kj4 (fun kq v5 w' => ∃ (x5_3 : Int), v5 = .int .i64 x5_3 ∧ Aside0 (laws_mtPlain.l1 kq l0 x5_3 l0 (l0.length : Int) x9_1 ((rd_T32 l0 x9_1).f0) ((rd_T32 l0 x9_1).f1) = some r) ∧ Aside0 (kq ≤ kj4) ∧ Aside0 (w'.heap[gb130]? = some (.cells #[.string ((rd_T32 l0 x9_1).f0), .string ((rd_T32 l0 x9_1).f1)] 32 (0, 0))) ∧ Aside0 (Below w.heap.size w w'))
         case atStart => exact ⟨(0), (by first | rfl | (simp; done) | (simp [*]; done)), H', ⟨Nat.le_refl _⟩, ⟨by (with_reducible repeat (first | refine blk_drewN ?_ _ | refine blk_drew ?_ | refine blk_alloc ?_ _)); exact BK130.out⟩, ⟨by repeat (first | (with_reducible first | exact HB.out | apply below_alloc | apply pw_below_drewN | apply below_drew1 | refine below_set ?_ GE130.out) | exact HB.out)⟩⟩
         case round =>
          clear H'
          try clear c1
          try clear p1
          try clear q1
          try clear hx1
          try clear c2
          try clear c2b0
          try clear p2
          try clear c3
          try clear c3b0
          try clear c4
          try clear c4b0
          try clear c7
          try clear c8
          try clear c8b0
          try clear c8b1
          try clear c11
          try clear hcz10_0
          try clear hcz10_1
          try clear hcz7_0
          try clear hcz7_1
          try clear hcz9_0
          try clear hcz9_1
          try clear hfz10_0
          try clear hfz10_1
          try clear hfz7_0
          try clear hfz7_1
          try clear hfz9_0
          try clear hfz9_1
          try clear hx129_0
          try clear hx129_1
          try clear p1
          try clear p129
          try clear p2
          try clear q1
          try clear q129
          obtain ⟨x5_3, rfl, HA, HK3, BK130, HB⟩ := hrel
          cases gk with
          | zero => exact absurd HA.out (by simp [laws_mtPlain.l1])
          | succ k3 =>
           have H := HA.out
           clear HA
           simp only [laws_mtPlain.l1] at H
           by_cases c12 : x5_3 < (((rd_T32 l0 x9_1).f0).size : Int)
           ·rw [if_pos c12] at H
            have c12b0 : decide (x5_3 < (((rd_T32 l0 x9_1).f0).size : Int)) = true := decide_eq_true c12
            clear c12
            by_cases c13 : 0 ≤ x5_3
            ·rw [if_pos c13] at H
             have c13b0 : decide (0 ≤ x5_3) = true := decide_eq_true c13
             clear c13
             by_cases c15 : (bt ((rd_T32 l0 x9_1).f0) x5_3) = 61
             ·rw [if_pos c15] at H
              have c15b0 : ((bt ((rd_T32 l0 x9_1).f0) x5_3) == 61) = true := beq_iff_eq.mpr c15
              have c15b1 : ((bt ((rd_T32 l0 x9_1).f0) x5_3) != 61) = false := bne_eq_false_iff_eq.mpr c15
              clear c15
              obtain rfl := Option.some.inj H
              have hcz16_0 : wr.cell? ⟨gb130, 0, none⟩ = some (.string ((rd_T32 l0 x9_1).f0)) := (blk_cell BK130.out 0).trans rfl
              have hcz16_1 : wr.cell? ⟨gb130, 1, none⟩ = some (.string ((rd_T32 l0 x9_1).f1)) := (blk_cell BK130.out 1).trans rfl
              have hfz16_0 := blk_frozen BK130.out 0
              have hfz16_1 := blk_frozen BK130.out 1
              have p14 : 0 ≤ (x5_3 : Int) := of_decide_eq_true (by first | (with_reducible assumption) | assumption)
              have q14 : x5_3 < (((rd_T32 l0 x9_1).f0).size : Int) := of_decide_eq_true (by first | (with_reducible assumption) | assumption)
              have hx14 := bt_at ((rd_T32 l0 x9_1).f0) x5_3
              replace p14 := eq_true p14
              replace q14 := eq_true q14
              go_wp2
              go_ret
              exact ⟨by first | rfl | (simp [errW_none, errW_some] <;> rfl) | (simp [*, errW_none, errW_some] <;> rfl), by repeat (first | (with_reducible first | exact HB.out | apply below_alloc | apply pw_below_drewN | apply below_drew1 | refine below_set ?_ GE130.out) | exact HB.out)⟩
             ·rw [if_neg c15] at H
              have c15b0 : ((bt ((rd_T32 l0 x9_1).f0) x5_3) == 61) = false := beq_eq_false_iff_ne.mpr c15
              have c15b1 : ((bt ((rd_T32 l0 x9_1).f0) x5_3) != 61) = true := bne_iff_ne.mpr c15
              by_cases c18 : (bt ((rd_T32 l0 x9_1).f0) x5_3) = 44
              ·rw [if_pos c18] at H
               have c18b0 : ((bt ((rd_T32 l0 x9_1).f0) x5_3) == 44) = true := beq_iff_eq.mpr c18
               have c18b1 : ((bt ((rd_T32 l0 x9_1).f0) x5_3) != 44) = false := bne_eq_false_iff_eq.mpr c18
               clear c18
               obtain rfl := Option.some.inj H
               have hcz19_0 : wr.cell? ⟨gb130, 0, none⟩ = some (.string ((rd_T32 l0 x9_1).f0)) := (blk_cell BK130.out 0).trans rfl
               have hcz19_1 : wr.cell? ⟨gb130, 1, none⟩ = some (.string ((rd_T32 l0 x9_1).f1)) := (blk_cell BK130.out 1).trans rfl
               have hfz19_0 := blk_frozen BK130.out 0
               have hfz19_1 := blk_frozen BK130.out 1
               have p14 : 0 ≤ (x5_3 : Int) := of_decide_eq_true (by first | (with_reducible assumption) | assumption)
               have q14 : x5_3 < (((rd_T32 l0 x9_1).f0).size : Int) := of_decide_eq_true (by first | (with_reducible assumption) | assumption)
               have hx14 := bt_at ((rd_T32 l0 x9_1).f0) x5_3
               replace p14 := eq_true p14
               replace q14 := eq_true q14
               have p17 : 0 ≤ (x5_3 : Int) := of_decide_eq_true (by first | (with_reducible assumption) | assumption)
               have q17 : x5_3 < (((rd_T32 l0 x9_1).f0).size : Int) := of_decide_eq_true (by first | (with_reducible assumption) | assumption)
               have hx17 := bt_at ((rd_T32 l0 x9_1).f0) x5_3
               replace p17 := eq_true p17
               replace q17 := eq_true q17
               go_wp2
               go_ret
               exact ⟨by first | rfl | (simp [errW_none, errW_some] <;> rfl) | (simp [*, errW_none, errW_some] <;> rfl), by repeat (first | (with_reducible first | exact HB.out | apply below_alloc | apply pw_below_drewN | apply below_drew1 | refine below_set ?_ GE130.out) | exact HB.out)⟩
              ·rw [if_neg c18] at H
               have c18b0 : ((bt ((rd_T32 l0 x9_1).f0) x5_3) == 44) = false := beq_eq_false_iff_ne.mpr c18
               have c18b1 : ((bt ((rd_T32 l0 x9_1).f0) x5_3) != 44) = true := bne_iff_ne.mpr c18
               by_cases c21 : (bt ((rd_T32 l0 x9_1).f0) x5_3) = 39
               ·rw [if_pos c21] at H
                have c21b0 : ((bt ((rd_T32 l0 x9_1).f0) x5_3) == 39) = true := beq_iff_eq.mpr c21
                have c21b1 : ((bt ((rd_T32 l0 x9_1).f0) x5_3) != 39) = false := bne_eq_false_iff_eq.mpr c21
                clear c21
                obtain rfl := Option.some.inj H
                have hcz22_0 : wr.cell? ⟨gb130, 0, none⟩ = some (.string ((rd_T32 l0 x9_1).f0)) := (blk_cell BK130.out 0).trans rfl
                have hcz22_1 : wr.cell? ⟨gb130, 1, none⟩ = some (.string ((rd_T32 l0 x9_1).f1)) := (blk_cell BK130.out 1).trans rfl
                have hfz22_0 := blk_frozen BK130.out 0
                have hfz22_1 := blk_frozen BK130.out 1
                have p14 : 0 ≤ (x5_3 : Int) := of_decide_eq_true (by first | (with_reducible assumption) | assumption)
                have q14 : x5_3 < (((rd_T32 l0 x9_1).f0).size : Int) := of_decide_eq_true (by first | (with_reducible assumption) | assumption)
                have hx14 := bt_at ((rd_T32 l0 x9_1).f0) x5_3
                replace p14 := eq_true p14
                replace q14 := eq_true q14
                have p17 : 0 ≤ (x5_3 : Int) := of_decide_eq_true (by first | (with_reducible assumption) | assumption)
                have q17 : x5_3 < (((rd_T32 l0 x9_1).f0).size : Int) := of_decide_eq_true (by first | (with_reducible assumption) | assumption)
                have hx17 := bt_at ((rd_T32 l0 x9_1).f0) x5_3
                replace p17 := eq_true p17
                replace q17 := eq_true q17
                have p20 : 0 ≤ (x5_3 : Int) := of_decide_eq_true (by first | (with_reducible assumption) | assumption)
                have q20 : x5_3 < (((rd_T32 l0 x9_1).f0).size : Int) := of_decide_eq_true (by first | (with_reducible assumption) | assumption)
                have hx20 := bt_at ((rd_T32 l0 x9_1).f0) x5_3
                replace p20 := eq_true p20
                replace q20 := eq_true q20
                go_wp2
                go_ret
                exact ⟨by first | rfl | (simp [errW_none, errW_some] <;> rfl) | (simp [*, errW_none, errW_some] <;> rfl), by repeat (first | (with_reducible first | exact HB.out | apply below_alloc | apply pw_below_drewN | apply below_drew1 | refine below_set ?_ GE130.out) | exact HB.out)⟩
               ·rw [if_neg c21] at H
                have c21b0 : ((bt ((rd_T32 l0 x9_1).f0) x5_3) == 39) = false := beq_eq_false_iff_ne.mpr c21
                have c21b1 : ((bt ((rd_T32 l0 x9_1).f0) x5_3) != 39) = true := bne_iff_ne.mpr c21
                have H' := Aside0.mk H
                clear H
                have hcz23_0 : wr.cell? ⟨gb130, 0, none⟩ = some (.string ((rd_T32 l0 x9_1).f0)) := (blk_cell BK130.out 0).trans rfl
                have hcz23_1 : wr.cell? ⟨gb130, 1, none⟩ = some (.string ((rd_T32 l0 x9_1).f1)) := (blk_cell BK130.out 1).trans rfl
                have hfz23_0 := blk_frozen BK130.out 0
                have hfz23_1 := blk_frozen BK130.out 1
                have p14 : 0 ≤ (x5_3 : Int) := of_decide_eq_true (by first | (with_reducible assumption) | assumption)
                have q14 : x5_3 < (((rd_T32 l0 x9_1).f0).size : Int) := of_decide_eq_true (by first | (with_reducible assumption) | assumption)
                have hx14 := bt_at ((rd_T32 l0 x9_1).f0) x5_3
                replace p14 := eq_true p14
                replace q14 := eq_true q14
                have p17 : 0 ≤ (x5_3 : Int) := of_decide_eq_true (by first | (with_reducible assumption) | assumption)
                have q17 : x5_3 < (((rd_T32 l0 x9_1).f0).size : Int) := of_decide_eq_true (by first | (with_reducible assumption) | assumption)
                have hx17 := bt_at ((rd_T32 l0 x9_1).f0) x5_3
                replace p17 := eq_true p17
                replace q17 := eq_true q17
                have p20 : 0 ≤ (x5_3 : Int) := of_decide_eq_true (by first | (with_reducible assumption) | assumption)
                have q20 : x5_3 < (((rd_T32 l0 x9_1).f0).size : Int) := of_decide_eq_true (by first | (with_reducible assumption) | assumption)
                have hx20 := bt_at ((rd_T32 l0 x9_1).f0) x5_3
                replace p20 := eq_true p20
                replace q20 := eq_true q20
                go_wp2
                go_roundg k3
                case measure => have := HK1.out; have := HJ4.out; have := HK3.out; omega
                case rel => exact ⟨(wrap64 (x5_3 + 1)), (by first | rfl | (simp; done) | (simp [*]; done)), H', ⟨by have := HK1.out; have := HJ4.out; have := HK3.out; omega⟩, ⟨by (with_reducible repeat (first | refine blk_drewN ?_ _ | refine blk_drew ?_ | refine blk_alloc ?_ _)); exact BK130.out⟩, ⟨by repeat (first | (with_reducible first | exact HB.out | apply below_alloc | apply pw_below_drewN | apply below_drew1 | refine below_set ?_ GE130.out) | exact HB.out)⟩⟩
            ·rw [if_neg c13] at H
             exact absurd H (by simp)
           ·rw [if_neg c12] at H
            have c12b0 : decide (x5_3 < (((rd_T32 l0 x9_1).f0).size : Int)) = false := decide_eq_false c12
            clear c12
            have H' := Aside0.mk H
            clear H
            have hcz24_0 : wr.cell? ⟨gb130, 0, none⟩ = some (.string ((rd_T32 l0 x9_1).f0)) := (blk_cell BK130.out 0).trans rfl
            have hcz24_1 : wr.cell? ⟨gb130, 1, none⟩ = some (.string ((rd_T32 l0 x9_1).f1)) := (blk_cell BK130.out 1).trans rfl
            have hfz24_0 := blk_frozen BK130.out 0
            have hfz24_1 := blk_frozen BK130.out 1
            go_wp2
            go_loopg [6] k3 (fun kq v6 w' => ∃ (x6_4 : Int), v6 = .int .i64 x6_4 ∧ Aside0 (laws_mtPlain.l2 kq l0 x6_4 l0 (l0.length : Int) x9_1 ((rd_T32 l0 x9_1).f0) ((rd_T32 l0 x9_1).f1) = some r) ∧ Aside0 (kq ≤ k3) ∧ Aside0 (w'.heap[gb130]? = some (.cells #[.string ((rd_T32 l0 x9_1).f0), .string ((rd_T32 l0 x9_1).f1)] 32 (0, 0))) ∧ Aside0 (Below w.heap.size w w'))
            case atStart => exact ⟨(0), (by first | rfl | (simp; done) | (simp [*]; done)), H', ⟨Nat.le_refl _⟩, ⟨by (with_reducible repeat (first | refine blk_drewN ?_ _ | refine blk_drew ?_ | refine blk_alloc ?_ _)); exact BK130.out⟩, ⟨by repeat (first | (with_reducible first | exact HB.out | apply below_alloc | apply pw_below_drewN | apply below_drew1 | refine below_set ?_ GE130.out) | exact HB.out)⟩⟩
            case round =>
             clear H'
             try clear c1
             try clear p1
             try clear q1
             try clear hx1
             try clear c2
             try clear c2b0
             try clear p2
             try clear q2
             try clear hx2
             try clear c3
             try clear c3b0
             try clear c4
             try clear c4b0
             try clear p6
             try clear c7
             try clear c8
             try clear c8b0
             try clear c8b1
             try clear c11
             try clear c12
             try clear c12b0
             try clear p12
             try clear q12
             try clear hx12
             try clear c13
             try clear c13b0
             try clear p14
             try clear q14
             try clear hx14
             try clear c15
             try clear c15b0
             try clear c15b1
             try clear p17
             try clear q17
             try clear hx17
             try clear c18
             try clear c18b0
             try clear c18b1
             try clear p20
             try clear q20
             try clear hx20
             try clear c21
             try clear c21b0
             try clear c21b1
             try clear hcz10_0
             try clear hcz10_1
             try clear hcz16_0
             try clear hcz16_1
             try clear hcz19_0
             try clear hcz19_1
             try clear hcz22_0
             try clear hcz22_1
             try clear hcz23_0
             try clear hcz23_1
             try clear hcz24_0
             try clear hcz24_1
             try clear hcz7_0
             try clear hcz7_1
             try clear hcz9_0
             try clear hcz9_1
             try clear hfz10_0
             try clear hfz10_1
             try clear hfz16_0
             try clear hfz16_1
             try clear hfz19_0
             try clear hfz19_1
             try clear hfz22_0
             try clear hfz22_1
             try clear hfz23_0
             try clear hfz23_1
             try clear hfz24_0
             try clear hfz24_1
             try clear hfz7_0
             try clear hfz7_1
             try clear hfz9_0
             try clear hfz9_1
             try clear hx129_0
             try clear hx129_1
             try clear p1
             try clear p129
             try clear p14
             try clear p17
             try clear p2
             try clear p20
             try clear q1
             try clear q129
             try clear q14
             try clear q17
             try clear q20
             obtain ⟨x6_4, rfl, HA, HK4, BK130, HB⟩ := hrel
             cases gk with
             | zero => exact absurd HA.out (by simp [laws_mtPlain.l2])
             | succ k4 =>
              have H := HA.out
              clear HA
              simp only [laws_mtPlain.l2] at H
              by_cases c25 : x6_4 < (((rd_T32 l0 x9_1).f1).size : Int)
              ·rw [if_pos c25] at H
               have c25b0 : decide (x6_4 < (((rd_T32 l0 x9_1).f1).size : Int)) = true := decide_eq_true c25
               clear c25
               by_cases c26 : 0 ≤ x6_4
               ·rw [if_pos c26] at H
                have c26b0 : decide (0 ≤ x6_4) = true := decide_eq_true c26
                clear c26
                by_cases c28 : (bt ((rd_T32 l0 x9_1).f1) x6_4) = 39
                ·rw [if_pos c28] at H
                 have c28b0 : ((bt ((rd_T32 l0 x9_1).f1) x6_4) == 39) = true := beq_iff_eq.mpr c28
                 have c28b1 : ((bt ((rd_T32 l0 x9_1).f1) x6_4) != 39) = false := bne_eq_false_iff_eq.mpr c28
                 clear c28
                 obtain rfl := Option.some.inj H
                 have hcz29_0 : wr.cell? ⟨gb130, 0, none⟩ = some (.string ((rd_T32 l0 x9_1).f0)) := (blk_cell BK130.out 0).trans rfl
                 have hcz29_1 : wr.cell? ⟨gb130, 1, none⟩ = some (.string ((rd_T32 l0 x9_1).f1)) := (blk_cell BK130.out 1).trans rfl
                 have hfz29_0 := blk_frozen BK130.out 0
                 have hfz29_1 := blk_frozen BK130.out 1
                 have p27 : 0 ≤ (x6_4 : Int) := of_decide_eq_true (by first | (with_reducible assumption) | assumption)
                 have q27 : x6_4 < (((rd_T32 l0 x9_1).f1).size : Int) := of_decide_eq_true (by first | (with_reducible assumption) | assumption)
                 have hx27 := bt_at ((rd_T32 l0 x9_1).f1) x6_4
                 replace p27 := eq_true p27
                 replace q27 := eq_true q27
                 go_wp2
                 go_ret
                 exact ⟨by first | rfl | (simp [errW_none, errW_some] <;> rfl) | (simp [*, errW_none, errW_some] <;> rfl), by repeat (first | (with_reducible first | exact HB.out | apply below_alloc | apply pw_below_drewN | apply below_drew1 | refine below_set ?_ GE130.out) | exact HB.out)⟩
                ·rw [if_neg c28] at H
                 have c28b0 : ((bt ((rd_T32 l0 x9_1).f1) x6_4) == 39) = false := beq_eq_false_iff_ne.mpr c28
                 have c28b1 : ((bt ((rd_T32 l0 x9_1).f1) x6_4) != 39) = true := bne_iff_ne.mpr c28
                 have H' := Aside0.mk H
                 clear H
                 have hcz30_0 : wr.cell? ⟨gb130, 0, none⟩ = some (.string ((rd_T32 l0 x9_1).f0)) := (blk_cell BK130.out 0).trans rfl
                 have hcz30_1 : wr.cell? ⟨gb130, 1, none⟩ = some (.string ((rd_T32 l0 x9_1).f1)) := (blk_cell BK130.out 1).trans rfl
                 have hfz30_0 := blk_frozen BK130.out 0
                 have hfz30_1 := blk_frozen BK130.out 1
                 have p27 : 0 ≤ (x6_4 : Int) := of_decide_eq_true (by first | (with_reducible assumption) | assumption)
                 have q27 : x6_4 < (((rd_T32 l0 x9_1).f1).size : Int) := of_decide_eq_true (by first | (with_reducible assumption) | assumption)
                 have hx27 := bt_at ((rd_T32 l0 x9_1).f1) x6_4
                 replace p27 := eq_true p27
                 replace q27 := eq_true q27
                 go_wp2
                 go_roundg k4
                 case measure => have := HK1.out; have := HJ4.out; have := HK3.out; have := HK4.out; omega
                 case rel => exact ⟨(wrap64 (x6_4 + 1)), (by first | rfl | (simp; done) | (simp [*]; done)), H', ⟨by have := HK1.out; have := HJ4.out; have := HK3.out; have := HK4.out; omega⟩, ⟨by (with_reducible repeat (first | refine blk_drewN ?_ _ | refine blk_drew ?_ | refine blk_alloc ?_ _)); exact BK130.out⟩, ⟨by repeat (first | (with_reducible first | exact HB.out | apply below_alloc | apply pw_below_drewN | apply below_drew1 | refine below_set ?_ GE130.out) | exact HB.out)⟩⟩
               ·rw [if_neg c26] at H
                exact absurd H (by simp)
              ·rw [if_neg c25] at H
               have c25b0 : decide (x6_4 < (((rd_T32 l0 x9_1).f1).size : Int)) = false := decide_eq_false c25
               clear c25
               have H' := Aside0.mk H
               clear H
               have hcz31_0 : wr.cell? ⟨gb130, 0, none⟩ = some (.string ((rd_T32 l0 x9_1).f0)) := (blk_cell BK130.out 0).trans rfl
               have hcz31_1 : wr.cell? ⟨gb130, 1, none⟩ = some (.string ((rd_T32 l0 x9_1).f1)) := (blk_cell BK130.out 1).trans rfl
               have hfz31_0 := blk_frozen BK130.out 0
               have hfz31_1 := blk_frozen BK130.out 1
               go_wp2
               go_roundg k4
               case measure => have := HK1.out; have := HJ4.out; have := HK3.out; have := HK4.out; omega
               case rel => exact ⟨(wrap64 (x9_1 + 1)), (by first | rfl | (simp; done) | (simp [*]; done)), H', ⟨by have := HK1.out; have := HJ4.out; have := HK3.out; have := HK4.out; omega⟩, ⟨by repeat (first | (with_reducible first | exact HB.out | apply below_alloc | apply pw_below_drewN | apply below_drew1 | refine below_set ?_ GE130.out) | exact HB.out)⟩⟩
     ·rw [if_neg c4] at H
      exact absurd H (by simp)
    ·rw [if_neg c3] at H
     exact absurd H (by simp)
   ·rw [if_neg c2] at H
    have c2b0 : decide (x9_1 < (l0.length : Int)) = false := decide_eq_false c2
    clear c2
    obtain rfl := Option.some.inj H
    go_wp2
    go_ret
    exact ⟨by first | rfl | (simp [errW_none, errW_some] <;> rfl) | (simp [*, errW_none, errW_some] <;> rfl), by repeat (first | (with_reducible first | exact HB.out | apply below_alloc | apply pw_below_drewN | apply below_drew1) | exact HB.out)⟩

-- BY HAND: function 8 (impl_MtWith), in Derived.Test.YtoldgnmgjpjapaaDoorMt

end Go.Proofs.YtoldgnmgjpjapaaDoor.Q
