-- Written by a program of this session out of the translation; Lean checks it.
import Derived.Test.YtoldgnmgjpjapaaDoorQ0
namespace Go.Proofs.YtoldgnmgjpjapaaDoor.Q
open Go.RowKit Go.Proofs.YtoldgnmgjpjapaaDoorW.PrintWords Go.Proofs.YtoldgnmgjpjapaaDoorW.PrintLast Go.Proofs.YtoldgnmgjpjapaaDoor.Gt
set_option linter.unusedVariables false
set_option linter.unusedSimpArgs false

/-! ### spec_field: function 17 -/
def spec_field.l0 : Nat → Int → List (S69) → Int → Int → Option (ByteArray × Bool)
 | 0, _, _, _, _ => none
 | k + 1, x1, x9, x10, x11 => if x11 < x10 then (if 0 ≤ x11 then (if x11 < (x9.length : Int) then (if ((rd_T69 x9 x11).f0) = x1 then (if ((rd_T69 x9 x11).f1.f0) = 115 then (some ((rd_T69 x9 x11).f1.f2, true)) else (if ((rd_T69 x9 x11).f1.f0) = 111 then (some ((rd_T69 x9 x11).f1.f2, true)) else (spec_field.l0 k x1 x9 x10 (wrap64 (x11 + 1))))) else (spec_field.l0 k x1 x9 x10 (wrap64 (x11 + 1)))) else (none)) else (none)) else (some ((⟨#[]⟩ : ByteArray), false))
def spec_field.f (k : Nat) (a0_0 : Int) (a0_1 : Int) (a0_2 : Int) (l0_3 : List (S69)) (l0_4 : List (S63)) (a1 : Int) : Option (ByteArray × Bool) := spec_field.l0 k a1 l0_3 (l0_3.length : Int) 0
theorem spec_field.mono_l : ∀ k, (∀ y0 y1 y2 y3, LeO (spec_field.l0 k y0 y1 y2 y3) (spec_field.l0 (k + 1) y0 y1 y2 y3))
 | 0 => fun _ _ _ _ r h => by simp [spec_field.l0] at h
 | k + 1 => by
  have ih0 := spec_field.mono_l k
  ·intro y0 y1 y2 y3
   unfold spec_field.l0
   repeat' first
   | (with_reducible exact ih0 _ _ _ _)
   | (with_reducible exact LeO.refl _)
   | (with_reducible exact LeO.none _)
   | (with_reducible refine LeO.ite ?_ ?_)
   | (with_reducible refine LeO.bind ?_ (fun _ => ?_))
   | exact ih0 _ _ _ _
   | exact LeO.none _
   | refine LeO.ite ?_ ?_
   | refine LeO.bind ?_ (fun _ => ?_)
theorem spec_field.mono : ∀ a0 a1 a2 a3 a4 a5 k, LeO (spec_field.f k a0 a1 a2 a3 a4 a5) (spec_field.f (k + 1) a0 a1 a2 a3 a4 a5) := by
 intro a0 a1 a2 a3 a4 a5 k
 have ih0 := spec_field.mono_l k
 unfold spec_field.f
 repeat' first
   | (with_reducible exact ih0 _ _ _ _)
   | (with_reducible exact LeO.refl _)
   | (with_reducible exact LeO.none _)
   | (with_reducible refine LeO.ite ?_ ?_)
   | (with_reducible refine LeO.bind ?_ (fun _ => ?_))
   | exact ih0 _ _ _ _
   | exact LeO.none _
   | refine LeO.ite ?_ ?_
   | refine LeO.bind ?_ (fun _ => ?_)
set_option maxHeartbeats 8000000 in
set_option maxRecDepth 100000 in
theorem spec_field.calls (k : Nat) (a0_0 : Int) (a0_1 : Int) (a0_2 : Int) (A0_3 : Option Addr) (c0_3 : Nat) (l0_3 : List (S69)) (A0_4 : Option Addr) (c0_4 : Nat) (l0_4 : List (S63)) (a1 : Int) (r1 : ByteArray) (r2 : Bool) (w : World) (hr0_3 : Kd.C k69 w A0_3 l0_3.length l0_3) (hc0_3 : l0_3.length ≤ c0_3) (hr0_4 : Kd.C k63 w A0_4 l0_4.length l0_4) (hc0_4 : l0_4.length ≤ c0_4) (h : spec_field.f k a0_0 a0_1 a0_2 l0_3 l0_4 a1 = some (r1, r2)) :
  Calls Tryd.prog 17 #[.agg #[.int .u8 a0_0, .int .u8 a0_1, .int .u32 a0_2, .slice A0_3 l0_3.length c0_3, .slice A0_4 l0_4.length c0_4], .int .u8 a1] w fun e w' => e = .returned (.tuple #[.string r1, .bool r2]) ∧ Below w.heap.size w w' := by
 have hu28 := Tryd.underlying28
 have hu69 := Tryd.underlying69
 have HR0_3 := Aside0.mk hr0_3
 have HC0_3 := Aside0.mk hc0_3
 clear hr0_3 hc0_3
 have HR0_4 := Aside0.mk hr0_4
 have HC0_4 := Aside0.mk hc0_4
 clear hr0_4 hc0_4
 have HB := Aside0.mk (Below.refl w.heap.size w)
 have H : (spec_field.l0 k a1 l0_3 (l0_3.length : Int) 0) = some (r1, r2) := h
 clear h
 have H' := Aside0.mk H
 clear H
 go_enter Tryd.func17, Tryd.ntmps17
 go_wp2_with (first | ((with_reducible refine gate_dst (N := 2) rfl ?_); refine box_event ?hg (N := 2) ?hd (cs := #[.int .u8 a0_0, .int .u8 a0_1, .int .u32 a0_2, .slice A0_3 l0_3.length c0_3, .slice A0_4 l0_4.length c0_4]) (t := 28) ?hr ?_; (case hd => rfl); (case hg => rfl); (case hr => first | (go_simp; done) | (go_simp; rfl)); intro gb101 hg w3 hbox hb; have n0_ := Aside0.mk (below_step (by repeat (first | (with_reducible first | exact HB.out | apply below_alloc | apply pw_below_drewN | apply below_drew1) | exact HB.out)) hb); have n1_ := Aside0.mk (hbox); have n2_ := Aside0.mk ((by rw [hg]; exact (below_size (by repeat (first | (with_reducible first | exact HB.out | apply below_alloc | apply pw_below_drewN | apply below_drew1) | exact HB.out))) : w.heap.size ≤ gb101)); have n3_ := Aside0.mk ((by rw [hg]; exact (below_size (by repeat (first | (with_reducible first | exact HB.out | apply below_alloc | apply pw_below_drewN | apply below_drew1) | exact HB.out))) : w.heap.size ≤ gb101)); clear HB; have HB := n0_; have BK101 := n1_; have GW101 := n2_; have GE101 := n3_; clear n0_ n1_ n2_ n3_; clear hb hbox hg; have hcz4_0 : w3.cell? ⟨gb101, 0, none⟩ = some (.int .u8 a0_0) := (blk_cell BK101.out 0).trans rfl; have hcz4_1 : w3.cell? ⟨gb101, 1, none⟩ = some (.int .u8 a0_1) := (blk_cell BK101.out 1).trans rfl; have hcz4_2 : w3.cell? ⟨gb101, 2, none⟩ = some (.int .u32 a0_2) := (blk_cell BK101.out 2).trans rfl; have hcz4_3 : w3.cell? ⟨gb101, 3, none⟩ = some (.slice A0_3 l0_3.length c0_3) := (blk_cell BK101.out 3).trans rfl; have hcz4_4 : w3.cell? ⟨gb101, 4, none⟩ = some (.slice A0_4 l0_4.length c0_4) := (blk_cell BK101.out 4).trans rfl; have hfz4_0 := blk_frozen BK101.out 0; have hfz4_1 := blk_frozen BK101.out 1; have hfz4_2 := blk_frozen BK101.out 2; have hfz4_3 := blk_frozen BK101.out 3; have hfz4_4 := blk_frozen BK101.out 4))
 go_loopg [11] k (fun kq v11 w' => ∃ (x11_1 : Int), v11 = .int .i64 x11_1 ∧ Aside0 (spec_field.l0 kq a1 l0_3 (l0_3.length : Int) x11_1 = some (r1, r2)) ∧ Aside0 (kq ≤ k) ∧ Aside0 (w'.heap[gb101]? = some (.cells #[.int .u8 a0_0, .int .u8 a0_1, .int .u32 a0_2, (.slice A0_3 l0_3.length c0_3), (.slice A0_4 l0_4.length c0_4)] 28 (0, 0))) ∧ Aside0 (Below w.heap.size w w'))
 case atStart => exact ⟨(0), (by first | rfl | (simp; done) | (simp [*]; done)), H', ⟨Nat.le_refl _⟩, ⟨by (with_reducible repeat (first | refine blk_drewN ?_ _ | refine blk_drew ?_ | refine blk_alloc ?_ _)); exact BK101.out⟩, ⟨by repeat (first | (with_reducible first | exact HB.out | apply below_alloc | apply pw_below_drewN | apply below_drew1 | refine below_set ?_ GE101.out) | exact HB.out)⟩⟩
 case round =>
  clear H'
  try clear c1
  try clear p2
  try clear hcz4_0
  try clear hcz4_1
  try clear hcz4_2
  try clear hcz4_3
  try clear hcz4_4
  try clear hfz4_0
  try clear hfz4_1
  try clear hfz4_2
  try clear hfz4_3
  try clear hfz4_4
  obtain ⟨x11_1, rfl, HA, HK1, BK101, HB⟩ := hrel
  cases gk with
  | zero => exact absurd HA.out (by simp [spec_field.l0])
  | succ k1 =>
   have H := HA.out
   clear HA
   simp only [spec_field.l0] at H
   by_cases c5 : x11_1 < (l0_3.length : Int)
   ·rw [if_pos c5] at H
    have c5b0 : decide (x11_1 < (l0_3.length : Int)) = true := decide_eq_true c5
    clear c5
    by_cases c6 : 0 ≤ x11_1
    ·rw [if_pos c6] at H
     have c6b0 : decide (0 ≤ x11_1) = true := decide_eq_true c6
     clear c6
     by_cases c7 : x11_1 < (l0_3.length : Int)
     ·rw [if_pos c7] at H
      have c7b0 : decide (x11_1 < (l0_3.length : Int)) = true := decide_eq_true c7
      clear c7
      by_cases c8 : ((rd_T69 l0_3 x11_1).f0) = a1
      ·rw [if_pos c8] at H
       have c8b0 : (((rd_T69 l0_3 x11_1).f0) == a1) = true := beq_iff_eq.mpr c8
       have c8b1 : (((rd_T69 l0_3 x11_1).f0) != a1) = false := bne_eq_false_iff_eq.mpr c8
       clear c8
       by_cases c9 : ((rd_T69 l0_3 x11_1).f1.f0) = 115
       ·rw [if_pos c9] at H
        have c9b0 : (((rd_T69 l0_3 x11_1).f1.f0) == 115) = true := beq_iff_eq.mpr c9
        have c9b1 : (((rd_T69 l0_3 x11_1).f1.f0) != 115) = false := bne_eq_false_iff_eq.mpr c9
        clear c9
        simp only [Option.some.injEq, Prod.mk.injEq] at H
        obtain ⟨rfl, rfl⟩ := H
        have p102 : 0 ≤ (x11_1 : Int) := of_decide_eq_true (by first | (with_reducible assumption) | assumption)
        have q102 : x11_1 < (l0_3.length : Int) := of_decide_eq_true (by first | (with_reducible assumption) | assumption)
        obtain ⟨ad102, A102_4, c102_4, e102, hx102_0, hx102_1, hx102_2, hx102_3, hx102_4, hl102_4, hi102_4⟩ := at_T69 HR0_3.out x11_1 p102 q102
        cases e102
        replace hx102_0 := (HB.out.cell (World.block_lt_of_cell? w _ hx102_0)).trans hx102_0
        replace hx102_1 := (HB.out.cell (World.block_lt_of_cell? w _ hx102_1)).trans hx102_1
        replace hx102_2 := (HB.out.cell (World.block_lt_of_cell? w _ hx102_2)).trans hx102_2
        replace hx102_3 := (HB.out.cell (World.block_lt_of_cell? w _ hx102_3)).trans hx102_3
        replace hx102_4 := (HB.out.cell (World.block_lt_of_cell? w _ hx102_4)).trans hx102_4
        have HR102_4 := Aside0.mk hi102_4
        have HC102_4 := Aside0.mk hl102_4
        clear hi102_4 hl102_4
        replace p102 := eq_true p102
        replace q102 := eq_true q102
        go_wp2_with (first | ((with_reducible refine gate_dst (N := 7) rfl ?_); refine box_event ?hg (N := 7) ?hd (cs := #[.int .u8 0, .int .u8 0, .int .u64 0, .string (⟨#[]⟩ : ByteArray), .slice none 0 0]) (t := 69) ?hr ?_; (case hd => rfl); (case hg => rfl); (case hr => first | (go_simp; done) | (go_simp; rfl)); intro gb103 hg w10 hbox hb; have n0_ := Aside0.mk (blk_below (g := gb101) (o := .cells #[.int .u8 a0_0, .int .u8 a0_1, .int .u32 a0_2, .slice (some ad102) l0_3.length c0_3, .slice A0_4 l0_4.length c0_4] 28 (0, 0)) (by (with_reducible repeat (first | refine blk_drewN ?_ _ | refine blk_drew ?_ | refine blk_alloc ?_ _)); exact BK101.out) hb); have n1_ := Aside0.mk (below_step (by repeat (first | (with_reducible first | exact HB.out | apply below_alloc | apply pw_below_drewN | apply below_drew1 | refine below_set ?_ GE101.out) | exact HB.out)) hb); have n2_ := Aside0.mk (hbox); have n3_ := Aside0.mk ((by rw [hg]; exact (below_size (by repeat (first | (with_reducible first | exact HB.out | apply below_alloc | apply pw_below_drewN | apply below_drew1 | refine below_set ?_ GE101.out) | exact HB.out))) : w.heap.size ≤ gb103)); have n4_ := Aside0.mk ((by rw [hg]; exact (below_size (by repeat (first | (with_reducible first | exact HB.out | apply below_alloc | apply pw_below_drewN | apply below_drew1 | refine below_set ?_ GE101.out) | exact HB.out))) : w.heap.size ≤ gb103)); have n5_ := Aside0.mk ((by rw [hg]; exact Nat.ne_of_lt (blk_lt (g := gb101) (o := .cells #[.int .u8 a0_0, .int .u8 a0_1, .int .u32 a0_2, .slice (some ad102) l0_3.length c0_3, .slice A0_4 l0_4.length c0_4] 28 (0, 0)) (by (with_reducible repeat (first | refine blk_drewN ?_ _ | refine blk_drew ?_ | refine blk_alloc ?_ _)); exact BK101.out)) : gb101 ≠ gb103)); have n6_ := Aside0.mk ((by rw [hg]; exact Nat.ne_of_gt (blk_lt (g := gb101) (o := .cells #[.int .u8 a0_0, .int .u8 a0_1, .int .u32 a0_2, .slice (some ad102) l0_3.length c0_3, .slice A0_4 l0_4.length c0_4] 28 (0, 0)) (by (with_reducible repeat (first | refine blk_drewN ?_ _ | refine blk_drew ?_ | refine blk_alloc ?_ _)); exact BK101.out)) : gb103 ≠ gb101)); clear BK101; clear HB; have BK101 := n0_; have HB := n1_; have BK103 := n2_; have GW103 := n3_; have GE103 := n4_; have NB101_103 := n5_; have NB103_101 := n6_; clear n0_ n1_ n2_ n3_ n4_ n5_ n6_; clear hb hbox hg; have hnb11 := NB103_101.out; have hnc11 := NB101_103.out; have hcz12_0 : w10.cell? ⟨gb103, 0, none⟩ = some (.int .u8 0) := (blk_cell BK103.out 0).trans rfl; have hcz12_1 : w10.cell? ⟨gb103, 1, none⟩ = some (.int .u8 0) := (blk_cell BK103.out 1).trans rfl; have hcz12_2 : w10.cell? ⟨gb103, 2, none⟩ = some (.int .u64 0) := (blk_cell BK103.out 2).trans rfl; have hcz12_3 : w10.cell? ⟨gb103, 3, none⟩ = some (.string (⟨#[]⟩ : ByteArray)) := (blk_cell BK103.out 3).trans rfl; have hcz12_4 : w10.cell? ⟨gb103, 4, none⟩ = some (.slice none 0 0) := (blk_cell BK103.out 4).trans rfl; have hfz12_0 := blk_frozen BK103.out 0; have hfz12_1 := blk_frozen BK103.out 1; have hfz12_2 := blk_frozen BK103.out 2; have hfz12_3 := blk_frozen BK103.out 3; have hfz12_4 := blk_frozen BK103.out 4))
        go_ret2
        exact ⟨by first | rfl | (simp [errW_none, errW_some] <;> rfl) | (simp [*, errW_none, errW_some] <;> rfl), by repeat (first | (with_reducible first | exact HB.out | apply below_alloc | apply pw_below_drewN | apply below_drew1 | refine below_set ?_ GE101.out | refine below_set ?_ GE103.out) | exact HB.out)⟩
       ·rw [if_neg c9] at H
        have c9b0 : (((rd_T69 l0_3 x11_1).f1.f0) == 115) = false := beq_eq_false_iff_ne.mpr c9
        have c9b1 : (((rd_T69 l0_3 x11_1).f1.f0) != 115) = true := bne_iff_ne.mpr c9
        by_cases c13 : ((rd_T69 l0_3 x11_1).f1.f0) = 111
        ·rw [if_pos c13] at H
         have c13b0 : (((rd_T69 l0_3 x11_1).f1.f0) == 111) = true := beq_iff_eq.mpr c13
         have c13b1 : (((rd_T69 l0_3 x11_1).f1.f0) != 111) = false := bne_eq_false_iff_eq.mpr c13
         clear c13
         simp only [Option.some.injEq, Prod.mk.injEq] at H
         obtain ⟨rfl, rfl⟩ := H
         have p102 : 0 ≤ (x11_1 : Int) := of_decide_eq_true (by first | (with_reducible assumption) | assumption)
         have q102 : x11_1 < (l0_3.length : Int) := of_decide_eq_true (by first | (with_reducible assumption) | assumption)
         obtain ⟨ad102, A102_4, c102_4, e102, hx102_0, hx102_1, hx102_2, hx102_3, hx102_4, hl102_4, hi102_4⟩ := at_T69 HR0_3.out x11_1 p102 q102
         cases e102
         replace hx102_0 := (HB.out.cell (World.block_lt_of_cell? w _ hx102_0)).trans hx102_0
         replace hx102_1 := (HB.out.cell (World.block_lt_of_cell? w _ hx102_1)).trans hx102_1
         replace hx102_2 := (HB.out.cell (World.block_lt_of_cell? w _ hx102_2)).trans hx102_2
         replace hx102_3 := (HB.out.cell (World.block_lt_of_cell? w _ hx102_3)).trans hx102_3
         replace hx102_4 := (HB.out.cell (World.block_lt_of_cell? w _ hx102_4)).trans hx102_4
         have HR102_4 := Aside0.mk hi102_4
         have HC102_4 := Aside0.mk hl102_4
         clear hi102_4 hl102_4
         replace p102 := eq_true p102
         replace q102 := eq_true q102
         go_wp2_with (first | ((with_reducible refine gate_dst (N := 7) rfl ?_); refine box_event ?hg (N := 7) ?hd (cs := #[.int .u8 0, .int .u8 0, .int .u64 0, .string (⟨#[]⟩ : ByteArray), .slice none 0 0]) (t := 69) ?hr ?_; (case hd => rfl); (case hg => rfl); (case hr => first | (go_simp; done) | (go_simp; rfl)); intro gb103 hg w14 hbox hb; have n0_ := Aside0.mk (blk_below (g := gb101) (o := .cells #[.int .u8 a0_0, .int .u8 a0_1, .int .u32 a0_2, .slice (some ad102) l0_3.length c0_3, .slice A0_4 l0_4.length c0_4] 28 (0, 0)) (by (with_reducible repeat (first | refine blk_drewN ?_ _ | refine blk_drew ?_ | refine blk_alloc ?_ _)); exact BK101.out) hb); have n1_ := Aside0.mk (below_step (by repeat (first | (with_reducible first | exact HB.out | apply below_alloc | apply pw_below_drewN | apply below_drew1 | refine below_set ?_ GE101.out) | exact HB.out)) hb); have n2_ := Aside0.mk (hbox); have n3_ := Aside0.mk ((by rw [hg]; exact (below_size (by repeat (first | (with_reducible first | exact HB.out | apply below_alloc | apply pw_below_drewN | apply below_drew1 | refine below_set ?_ GE101.out) | exact HB.out))) : w.heap.size ≤ gb103)); have n4_ := Aside0.mk ((by rw [hg]; exact (below_size (by repeat (first | (with_reducible first | exact HB.out | apply below_alloc | apply pw_below_drewN | apply below_drew1 | refine below_set ?_ GE101.out) | exact HB.out))) : w.heap.size ≤ gb103)); have n5_ := Aside0.mk ((by rw [hg]; exact Nat.ne_of_lt (blk_lt (g := gb101) (o := .cells #[.int .u8 a0_0, .int .u8 a0_1, .int .u32 a0_2, .slice (some ad102) l0_3.length c0_3, .slice A0_4 l0_4.length c0_4] 28 (0, 0)) (by (with_reducible repeat (first | refine blk_drewN ?_ _ | refine blk_drew ?_ | refine blk_alloc ?_ _)); exact BK101.out)) : gb101 ≠ gb103)); have n6_ := Aside0.mk ((by rw [hg]; exact Nat.ne_of_gt (blk_lt (g := gb101) (o := .cells #[.int .u8 a0_0, .int .u8 a0_1, .int .u32 a0_2, .slice (some ad102) l0_3.length c0_3, .slice A0_4 l0_4.length c0_4] 28 (0, 0)) (by (with_reducible repeat (first | refine blk_drewN ?_ _ | refine blk_drew ?_ | refine blk_alloc ?_ _)); exact BK101.out)) : gb103 ≠ gb101)); clear BK101; clear HB; have BK101 := n0_; have HB := n1_; have BK103 := n2_; have GW103 := n3_; have GE103 := n4_; have NB101_103 := n5_; have NB103_101 := n6_; clear n0_ n1_ n2_ n3_ n4_ n5_ n6_; clear hb hbox hg; have hnb15 := NB103_101.out; have hnc15 := NB101_103.out; have hcz16_0 : w14.cell? ⟨gb103, 0, none⟩ = some (.int .u8 0) := (blk_cell BK103.out 0).trans rfl; have hcz16_1 : w14.cell? ⟨gb103, 1, none⟩ = some (.int .u8 0) := (blk_cell BK103.out 1).trans rfl; have hcz16_2 : w14.cell? ⟨gb103, 2, none⟩ = some (.int .u64 0) := (blk_cell BK103.out 2).trans rfl; have hcz16_3 : w14.cell? ⟨gb103, 3, none⟩ = some (.string (⟨#[]⟩ : ByteArray)) := (blk_cell BK103.out 3).trans rfl; have hcz16_4 : w14.cell? ⟨gb103, 4, none⟩ = some (.slice none 0 0) := (blk_cell BK103.out 4).trans rfl; have hfz16_0 := blk_frozen BK103.out 0; have hfz16_1 := blk_frozen BK103.out 1; have hfz16_2 := blk_frozen BK103.out 2; have hfz16_3 := blk_frozen BK103.out 3; have hfz16_4 := blk_frozen BK103.out 4))
         go_ret2
         exact ⟨by first | rfl | (simp [errW_none, errW_some] <;> rfl) | (simp [*, errW_none, errW_some] <;> rfl), by repeat (first | (with_reducible first | exact HB.out | apply below_alloc | apply pw_below_drewN | apply below_drew1 | refine below_set ?_ GE101.out | refine below_set ?_ GE103.out) | exact HB.out)⟩
        ·rw [if_neg c13] at H
         have c13b0 : (((rd_T69 l0_3 x11_1).f1.f0) == 111) = false := beq_eq_false_iff_ne.mpr c13
         have c13b1 : (((rd_T69 l0_3 x11_1).f1.f0) != 111) = true := bne_iff_ne.mpr c13
         have H' := Aside0.mk H
         clear H
         have p102 : 0 ≤ (x11_1 : Int) := of_decide_eq_true (by first | (with_reducible assumption) | assumption)
         have q102 : x11_1 < (l0_3.length : Int) := of_decide_eq_true (by first | (with_reducible assumption) | assumption)
         obtain ⟨ad102, A102_4, c102_4, e102, hx102_0, hx102_1, hx102_2, hx102_3, hx102_4, hl102_4, hi102_4⟩ := at_T69 HR0_3.out x11_1 p102 q102
         cases e102
         replace hx102_0 := (HB.out.cell (World.block_lt_of_cell? w _ hx102_0)).trans hx102_0
         replace hx102_1 := (HB.out.cell (World.block_lt_of_cell? w _ hx102_1)).trans hx102_1
         replace hx102_2 := (HB.out.cell (World.block_lt_of_cell? w _ hx102_2)).trans hx102_2
         replace hx102_3 := (HB.out.cell (World.block_lt_of_cell? w _ hx102_3)).trans hx102_3
         replace hx102_4 := (HB.out.cell (World.block_lt_of_cell? w _ hx102_4)).trans hx102_4
         have HR102_4 := Aside0.mk hi102_4
         have HC102_4 := Aside0.mk hl102_4
         clear hi102_4 hl102_4
         replace p102 := eq_true p102
         replace q102 := eq_true q102
         go_wp2_with (first | ((with_reducible refine gate_dst (N := 7) rfl ?_); refine box_event ?hg (N := 7) ?hd (cs := #[.int .u8 0, .int .u8 0, .int .u64 0, .string (⟨#[]⟩ : ByteArray), .slice none 0 0]) (t := 69) ?hr ?_; (case hd => rfl); (case hg => rfl); (case hr => first | (go_simp; done) | (go_simp; rfl)); intro gb103 hg w17 hbox hb; have n0_ := Aside0.mk (blk_below (g := gb101) (o := .cells #[.int .u8 a0_0, .int .u8 a0_1, .int .u32 a0_2, .slice (some ad102) l0_3.length c0_3, .slice A0_4 l0_4.length c0_4] 28 (0, 0)) (by (with_reducible repeat (first | refine blk_drewN ?_ _ | refine blk_drew ?_ | refine blk_alloc ?_ _)); exact BK101.out) hb); have n1_ := Aside0.mk (below_step (by repeat (first | (with_reducible first | exact HB.out | apply below_alloc | apply pw_below_drewN | apply below_drew1 | refine below_set ?_ GE101.out) | exact HB.out)) hb); have n2_ := Aside0.mk (hbox); have n3_ := Aside0.mk ((by rw [hg]; exact (below_size (by repeat (first | (with_reducible first | exact HB.out | apply below_alloc | apply pw_below_drewN | apply below_drew1 | refine below_set ?_ GE101.out) | exact HB.out))) : w.heap.size ≤ gb103)); have n4_ := Aside0.mk ((by rw [hg]; exact (below_size (by repeat (first | (with_reducible first | exact HB.out | apply below_alloc | apply pw_below_drewN | apply below_drew1 | refine below_set ?_ GE101.out) | exact HB.out))) : w.heap.size ≤ gb103)); have n5_ := Aside0.mk ((by rw [hg]; exact Nat.ne_of_lt (blk_lt (g := gb101) (o := .cells #[.int .u8 a0_0, .int .u8 a0_1, .int .u32 a0_2, .slice (some ad102) l0_3.length c0_3, .slice A0_4 l0_4.length c0_4] 28 (0, 0)) (by (with_reducible repeat (first | refine blk_drewN ?_ _ | refine blk_drew ?_ | refine blk_alloc ?_ _)); exact BK101.out)) : gb101 ≠ gb103)); have n6_ := Aside0.mk ((by rw [hg]; exact Nat.ne_of_gt (blk_lt (g := gb101) (o := .cells #[.int .u8 a0_0, .int .u8 a0_1, .int .u32 a0_2, .slice (some ad102) l0_3.length c0_3, .slice A0_4 l0_4.length c0_4] 28 (0, 0)) (by (with_reducible repeat (first | refine blk_drewN ?_ _ | refine blk_drew ?_ | refine blk_alloc ?_ _)); exact BK101.out)) : gb103 ≠ gb101)); clear BK101; clear HB; have BK101 := n0_; have HB := n1_; have BK103 := n2_; have GW103 := n3_; have GE103 := n4_; have NB101_103 := n5_; have NB103_101 := n6_; clear n0_ n1_ n2_ n3_ n4_ n5_ n6_; clear hb hbox hg; have hnb18 := NB103_101.out; have hnc18 := NB101_103.out; have hcz19_0 : w17.cell? ⟨gb103, 0, none⟩ = some (.int .u8 0) := (blk_cell BK103.out 0).trans rfl; have hcz19_1 : w17.cell? ⟨gb103, 1, none⟩ = some (.int .u8 0) := (blk_cell BK103.out 1).trans rfl; have hcz19_2 : w17.cell? ⟨gb103, 2, none⟩ = some (.int .u64 0) := (blk_cell BK103.out 2).trans rfl; have hcz19_3 : w17.cell? ⟨gb103, 3, none⟩ = some (.string (⟨#[]⟩ : ByteArray)) := (blk_cell BK103.out 3).trans rfl; have hcz19_4 : w17.cell? ⟨gb103, 4, none⟩ = some (.slice none 0 0) := (blk_cell BK103.out 4).trans rfl; have hfz19_0 := blk_frozen BK103.out 0; have hfz19_1 := blk_frozen BK103.out 1; have hfz19_2 := blk_frozen BK103.out 2; have hfz19_3 := blk_frozen BK103.out 3; have hfz19_4 := blk_frozen BK103.out 4))
         go_roundg k1
         case measure => have := HK1.out; omega
         case rel => exact ⟨(wrap64 (x11_1 + 1)), (by first | rfl | (simp; done) | (simp [*]; done)), H', ⟨by have := HK1.out; omega⟩, ⟨by (with_reducible repeat (first | refine blk_drewN ?_ _ | refine blk_drew ?_ | refine blk_alloc ?_ _)); refine blk_far ?_ NB101_103.out _; (with_reducible repeat (first | refine blk_drewN ?_ _ | refine blk_drew ?_ | refine blk_alloc ?_ _)); refine blk_far ?_ NB101_103.out _; (with_reducible repeat (first | refine blk_drewN ?_ _ | refine blk_drew ?_ | refine blk_alloc ?_ _)); refine blk_far ?_ NB101_103.out _; (with_reducible repeat (first | refine blk_drewN ?_ _ | refine blk_drew ?_ | refine blk_alloc ?_ _)); refine blk_far ?_ NB101_103.out _; (with_reducible repeat (first | refine blk_drewN ?_ _ | refine blk_drew ?_ | refine blk_alloc ?_ _)); refine blk_far ?_ NB101_103.out _; (with_reducible repeat (first | refine blk_drewN ?_ _ | refine blk_drew ?_ | refine blk_alloc ?_ _)); exact BK101.out⟩, ⟨by repeat (first | (with_reducible first | exact HB.out | apply below_alloc | apply pw_below_drewN | apply below_drew1 | refine below_set ?_ GE101.out | refine below_set ?_ GE103.out) | exact HB.out)⟩⟩
      ·rw [if_neg c8] at H
       have c8b0 : (((rd_T69 l0_3 x11_1).f0) == a1) = false := beq_eq_false_iff_ne.mpr c8
       have c8b1 : (((rd_T69 l0_3 x11_1).f0) != a1) = true := bne_iff_ne.mpr c8
       have H' := Aside0.mk H
       clear H
       have p102 : 0 ≤ (x11_1 : Int) := of_decide_eq_true (by first | (with_reducible assumption) | assumption)
       have q102 : x11_1 < (l0_3.length : Int) := of_decide_eq_true (by first | (with_reducible assumption) | assumption)
       obtain ⟨ad102, A102_4, c102_4, e102, hx102_0, hx102_1, hx102_2, hx102_3, hx102_4, hl102_4, hi102_4⟩ := at_T69 HR0_3.out x11_1 p102 q102
       cases e102
       replace hx102_0 := (HB.out.cell (World.block_lt_of_cell? w _ hx102_0)).trans hx102_0
       replace hx102_1 := (HB.out.cell (World.block_lt_of_cell? w _ hx102_1)).trans hx102_1
       replace hx102_2 := (HB.out.cell (World.block_lt_of_cell? w _ hx102_2)).trans hx102_2
       replace hx102_3 := (HB.out.cell (World.block_lt_of_cell? w _ hx102_3)).trans hx102_3
       replace hx102_4 := (HB.out.cell (World.block_lt_of_cell? w _ hx102_4)).trans hx102_4
       have HR102_4 := Aside0.mk hi102_4
       have HC102_4 := Aside0.mk hl102_4
       clear hi102_4 hl102_4
       replace p102 := eq_true p102
       replace q102 := eq_true q102
       go_wp2_with (first | ((with_reducible refine gate_dst (N := 7) rfl ?_); refine box_event ?hg (N := 7) ?hd (cs := #[.int .u8 0, .int .u8 0, .int .u64 0, .string (⟨#[]⟩ : ByteArray), .slice none 0 0]) (t := 69) ?hr ?_; (case hd => rfl); (case hg => rfl); (case hr => first | (go_simp; done) | (go_simp; rfl)); intro gb103 hg w20 hbox hb; have n0_ := Aside0.mk (blk_below (g := gb101) (o := .cells #[.int .u8 a0_0, .int .u8 a0_1, .int .u32 a0_2, .slice (some ad102) l0_3.length c0_3, .slice A0_4 l0_4.length c0_4] 28 (0, 0)) (by (with_reducible repeat (first | refine blk_drewN ?_ _ | refine blk_drew ?_ | refine blk_alloc ?_ _)); exact BK101.out) hb); have n1_ := Aside0.mk (below_step (by repeat (first | (with_reducible first | exact HB.out | apply below_alloc | apply pw_below_drewN | apply below_drew1 | refine below_set ?_ GE101.out) | exact HB.out)) hb); have n2_ := Aside0.mk (hbox); have n3_ := Aside0.mk ((by rw [hg]; exact (below_size (by repeat (first | (with_reducible first | exact HB.out | apply below_alloc | apply pw_below_drewN | apply below_drew1 | refine below_set ?_ GE101.out) | exact HB.out))) : w.heap.size ≤ gb103)); have n4_ := Aside0.mk ((by rw [hg]; exact (below_size (by repeat (first | (with_reducible first | exact HB.out | apply below_alloc | apply pw_below_drewN | apply below_drew1 | refine below_set ?_ GE101.out) | exact HB.out))) : w.heap.size ≤ gb103)); have n5_ := Aside0.mk ((by rw [hg]; exact Nat.ne_of_lt (blk_lt (g := gb101) (o := .cells #[.int .u8 a0_0, .int .u8 a0_1, .int .u32 a0_2, .slice (some ad102) l0_3.length c0_3, .slice A0_4 l0_4.length c0_4] 28 (0, 0)) (by (with_reducible repeat (first | refine blk_drewN ?_ _ | refine blk_drew ?_ | refine blk_alloc ?_ _)); exact BK101.out)) : gb101 ≠ gb103)); have n6_ := Aside0.mk ((by rw [hg]; exact Nat.ne_of_gt (blk_lt (g := gb101) (o := .cells #[.int .u8 a0_0, .int .u8 a0_1, .int .u32 a0_2, .slice (some ad102) l0_3.length c0_3, .slice A0_4 l0_4.length c0_4] 28 (0, 0)) (by (with_reducible repeat (first | refine blk_drewN ?_ _ | refine blk_drew ?_ | refine blk_alloc ?_ _)); exact BK101.out)) : gb103 ≠ gb101)); clear BK101; clear HB; have BK101 := n0_; have HB := n1_; have BK103 := n2_; have GW103 := n3_; have GE103 := n4_; have NB101_103 := n5_; have NB103_101 := n6_; clear n0_ n1_ n2_ n3_ n4_ n5_ n6_; clear hb hbox hg; have hnb21 := NB103_101.out; have hnc21 := NB101_103.out; have hcz22_0 : w20.cell? ⟨gb103, 0, none⟩ = some (.int .u8 0) := (blk_cell BK103.out 0).trans rfl; have hcz22_1 : w20.cell? ⟨gb103, 1, none⟩ = some (.int .u8 0) := (blk_cell BK103.out 1).trans rfl; have hcz22_2 : w20.cell? ⟨gb103, 2, none⟩ = some (.int .u64 0) := (blk_cell BK103.out 2).trans rfl; have hcz22_3 : w20.cell? ⟨gb103, 3, none⟩ = some (.string (⟨#[]⟩ : ByteArray)) := (blk_cell BK103.out 3).trans rfl; have hcz22_4 : w20.cell? ⟨gb103, 4, none⟩ = some (.slice none 0 0) := (blk_cell BK103.out 4).trans rfl; have hfz22_0 := blk_frozen BK103.out 0; have hfz22_1 := blk_frozen BK103.out 1; have hfz22_2 := blk_frozen BK103.out 2; have hfz22_3 := blk_frozen BK103.out 3; have hfz22_4 := blk_frozen BK103.out 4))
       go_roundg k1
       case measure => have := HK1.out; omega
       case rel => exact ⟨(wrap64 (x11_1 + 1)), (by first | rfl | (simp; done) | (simp [*]; done)), H', ⟨by have := HK1.out; omega⟩, ⟨by (with_reducible repeat (first | refine blk_drewN ?_ _ | refine blk_drew ?_ | refine blk_alloc ?_ _)); refine blk_far ?_ NB101_103.out _; (with_reducible repeat (first | refine blk_drewN ?_ _ | refine blk_drew ?_ | refine blk_alloc ?_ _)); refine blk_far ?_ NB101_103.out _; (with_reducible repeat (first | refine blk_drewN ?_ _ | refine blk_drew ?_ | refine blk_alloc ?_ _)); refine blk_far ?_ NB101_103.out _; (with_reducible repeat (first | refine blk_drewN ?_ _ | refine blk_drew ?_ | refine blk_alloc ?_ _)); refine blk_far ?_ NB101_103.out _; (with_reducible repeat (first | refine blk_drewN ?_ _ | refine blk_drew ?_ | refine blk_alloc ?_ _)); refine blk_far ?_ NB101_103.out _; (with_reducible repeat (first | refine blk_drewN ?_ _ | refine blk_drew ?_ | refine blk_alloc ?_ _)); exact BK101.out⟩, ⟨by repeat (first | (with_reducible first | exact HB.out | apply below_alloc | apply pw_below_drewN | apply below_drew1 | refine below_set ?_ GE101.out | refine below_set ?_ GE103.out) | exact HB.out)⟩⟩
     ·rw [if_neg c7] at H
      exact absurd H (by simp)
    ·rw [if_neg c6] at H
     exact absurd H (by simp)
   ·rw [if_neg c5] at H
    have c5b0 : decide (x11_1 < (l0_3.length : Int)) = false := decide_eq_false c5
    clear c5
    simp only [Option.some.injEq, Prod.mk.injEq] at H
    obtain ⟨rfl, rfl⟩ := H
    go_wp2
    go_ret2
    exact ⟨by first | rfl | (simp [errW_none, errW_some] <;> rfl) | (simp [*, errW_none, errW_some] <;> rfl), by repeat (first | (with_reducible first | exact HB.out | apply below_alloc | apply pw_below_drewN | apply below_drew1 | refine below_set ?_ GE101.out) | exact HB.out)⟩

/-! ### spec_Below: function 19 -/
def spec_Below.f (a0 : ByteArray) (a1 : ByteArray) : Option (Bool) := if a0.toList = a1.toList then (some true) else (if a1.toList = ([47] : List UInt8) then (some true) else (if (a0.size : Int) > (a1.size : Int) then (if 0 ≤ (a1.size : Int) then (if (a1.size : Int) ≤ (a0.size : Int) then (if (a0.extract 0 ((a1.size : Int) : Int).toNat).toList = a1.toList then (if (a1.size : Int) < (a0.size : Int) then (some ((bt a0 (a1.size : Int)) == 47)) else (none)) else (some false)) else (none)) else (none)) else (some false)))
set_option maxHeartbeats 8000000 in
set_option maxRecDepth 100000 in
theorem spec_Below.calls (a0 : ByteArray) (a1 : ByteArray) (r : Bool) (w : World) (h : spec_Below.f a0 a1 = some r) :
  Calls Tryd.prog 19 #[.string a0, .string a1] w fun e w' => e = .returned (.bool r) ∧ Drawn0 w w' := by
 have H : (if a0.toList = a1.toList then (some true) else (if a1.toList = ([47] : List UInt8) then (some true) else (if (a0.size : Int) > (a1.size : Int) then (if 0 ≤ (a1.size : Int) then (if (a1.size : Int) ≤ (a0.size : Int) then (if (a0.extract 0 ((a1.size : Int) : Int).toNat).toList = a1.toList then (if (a1.size : Int) < (a0.size : Int) then (some ((bt a0 (a1.size : Int)) == 47)) else (none)) else (some false)) else (none)) else (none)) else (some false)))) = some r := h
 clear h
 by_cases c3 : a0.toList = a1.toList
 ·rw [if_pos c3] at H
  have c3b0 : (a0.toList == a1.toList) = true := beq_iff_eq.mpr c3
  have c3b1 : (a0.toList != a1.toList) = false := bne_eq_false_iff_eq.mpr c3
  clear c3
  obtain rfl := Option.some.inj H
  go_enter Tryd.func19, Tryd.ntmps19
  go_wp2
  go_ret
  exact ⟨by first | rfl | (simp; done) | (simp [*]; done), by repeat (first | exact Drawn0.refl _ | apply Drawn0.step)⟩
 ·rw [if_neg c3] at H
  have c3b0 : (a0.toList == a1.toList) = false := beq_eq_false_iff_ne.mpr c3
  have c3b1 : (a0.toList != a1.toList) = true := bne_iff_ne.mpr c3
  by_cases c4 : a1.toList = ([47] : List UInt8)
  ·rw [if_pos c4] at H
   have c4b0 : (a1.toList == ([47] : List UInt8)) = true := beq_iff_eq.mpr c4
   have c4b1 : (a1.toList != ([47] : List UInt8)) = false := bne_eq_false_iff_eq.mpr c4
   clear c4
   obtain rfl := Option.some.inj H
   go_enter Tryd.func19, Tryd.ntmps19
   go_wp2
   go_ret
   exact ⟨by first | rfl | (simp; done) | (simp [*]; done), by repeat (first | exact Drawn0.refl _ | apply Drawn0.step)⟩
  ·rw [if_neg c4] at H
   have c4b0 : (a1.toList == ([47] : List UInt8)) = false := beq_eq_false_iff_ne.mpr c4
   have c4b1 : (a1.toList != ([47] : List UInt8)) = true := bne_iff_ne.mpr c4
   by_cases c5 : (a0.size : Int) > (a1.size : Int)
   ·rw [if_pos c5] at H
    have c5b0 : decide ((a1.size : Int) < (a0.size : Int)) = true := decide_eq_true c5
    have c5b1 : decide (a1.size < a0.size) = true := decide_eq_true (Int.ofNat_lt.mp c5)
    clear c5
    by_cases c6 : 0 ≤ (a1.size : Int)
    ·rw [if_pos c6] at H
     have c6b0 := eq_true c6
     have c6b1 : decide (0 ≤ (a1.size : Int)) = true := decide_eq_true c6
     clear c6
     by_cases c7 : (a1.size : Int) ≤ (a0.size : Int)
     ·rw [if_pos c7] at H
      have c7b0 := eq_true c7
      have c7b1 : decide ((a1.size : Int) ≤ (a0.size : Int)) = true := decide_eq_true c7
      clear c7
      by_cases c8 : (a0.extract 0 ((a1.size : Int) : Int).toNat).toList = a1.toList
      ·rw [if_pos c8] at H
       have c8b0 : ((a0.extract 0 a1.size).toList == a1.toList) = true := beq_iff_eq.mpr c8
       have c8b1 : ((a0.extract 0 a1.size).toList != a1.toList) = false := bne_eq_false_iff_eq.mpr c8
       clear c8
       by_cases c9 : (a1.size : Int) < (a0.size : Int)
       ·rw [if_pos c9] at H
        have c9b0 : decide ((a1.size : Int) < (a0.size : Int)) = true := decide_eq_true c9
        have c9b1 : decide (a1.size < a0.size) = true := decide_eq_true (Int.ofNat_lt.mp c9)
        clear c9
        obtain rfl := Option.some.inj H
        have p10 : 0 ≤ ((a1.size : Int) : Int) := of_decide_eq_true (by first | (with_reducible assumption) | assumption)
        have q10 : (a1.size : Int) < (a0.size : Int) := of_decide_eq_true (by first | (with_reducible assumption) | assumption)
        have hx10 : ∀ (h : a1.size < a0.size), ((a0[a1.size].toNat : Nat) : Int) = bt a0 (a1.size : Int) := bt_at a0 (a1.size : Int)
        replace p10 := eq_true p10
        replace q10 := eq_true q10
        go_enter Tryd.func19, Tryd.ntmps19
        go_wp2
        go_ret
        exact ⟨by first | rfl | (simp; done) | (simp [*]; done), by repeat (first | exact Drawn0.refl _ | apply Drawn0.step)⟩
       ·rw [if_neg c9] at H
        exact absurd H (by simp)
      ·rw [if_neg c8] at H
       have c8b0 : ((a0.extract 0 a1.size).toList == a1.toList) = false := beq_eq_false_iff_ne.mpr c8
       have c8b1 : ((a0.extract 0 a1.size).toList != a1.toList) = true := bne_iff_ne.mpr c8
       obtain rfl := Option.some.inj H
       go_enter Tryd.func19, Tryd.ntmps19
       go_wp2
       go_ret
       exact ⟨by first | rfl | (simp; done) | (simp [*]; done), by repeat (first | exact Drawn0.refl _ | apply Drawn0.step)⟩
     ·rw [if_neg c7] at H
      exact absurd H (by simp)
    ·rw [if_neg c6] at H
     exact absurd H (by simp)
   ·rw [if_neg c5] at H
    have c5b0 : decide ((a1.size : Int) < (a0.size : Int)) = false := decide_eq_false c5
    have c5b1 : decide (a1.size < a0.size) = false := decide_eq_false (fun h => c5 (Int.ofNat_lt.mpr h))
    clear c5
    obtain rfl := Option.some.inj H
    go_enter Tryd.func19, Tryd.ntmps19
    go_wp2
    go_ret
    exact ⟨by first | rfl | (simp; done) | (simp [*]; done), by repeat (first | exact Drawn0.refl _ | apply Drawn0.step)⟩

end Go.Proofs.YtoldgnmgjpjapaaDoor.Q
