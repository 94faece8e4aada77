-- Written by a program of this session out of the translation; Lean checks it.
import Derived.Test.YtoaehanfknjngaaDoorQ8
import Derived.Test.YtoaehanfknjngaaDoorQ6
namespace Go.Proofs.YtoaehanfknjngaaDoor.Q
open Go.RowKit Go.Proofs.YtoaehanfknjngaaDoor.L Go.Proofs.YtoaehanfknjngaaDoor.Gd Go.Proofs.YtoaehanfknjngaaDoor.Sb Go.Proofs.YtoaehanfknjngaaDoor.Vs Go.Proofs.YtoaehanfknjngaaDoorW.PrintWords Go.Proofs.YtoaehanfknjngaaDoorW.PrintLast Go.Proofs.YtoaehanfknjngaaDoorW.PrintMore
attribute [local go_sem] max2_int min2_int max_two min_two max_three min_three max_four min_four   -- for this text's walks alone
set_option linter.unusedVariables false
set_option linter.unusedSimpArgs false

def spec_TidyAll.l0 : Nat → List (S30) → List (S30) → Int → Int → Option (Bool)
 | 0, _, _, _, _ => none
 | k + 1, x0, x5, x6, x7 => if x7 < x6 then (if 0 ≤ x7 then (if x7 < (x5.length : Int) then ((spec_Tidy.f k ((rd_T30 x5 x7).f0) ((rd_T30 x5 x7).f1) ((rd_T30 x5 x7).f2) ((rd_T30 x5 x7).f3)).bind fun t138 => (if t138 = true then (spec_TidyAll.l0 k x0 x5 x6 (wrap64 (x7 + 1))) else (some false))) else (none)) else (none)) else ((spec_SigsOf.f k x0).bind fun t139 => ((spec_Valid.f k t139).bind fun t140 => (some t140)))
def spec_TidyAll.f (k : Nat) (l0 : List (S30)) : Option (Bool) := spec_TidyAll.l0 k l0 l0 (l0.length : Int) 0
theorem spec_TidyAll.mono_l : ∀ k, (∀ y0 y1 y2 y3, LeO (spec_TidyAll.l0 k y0 y1 y2 y3) (spec_TidyAll.l0 (k + 1) y0 y1 y2 y3))
 | 0 => fun _ _ _ _ r h => by simp [spec_TidyAll.l0] at h
 | k + 1 => by
  have ih0 := spec_TidyAll.mono_l k
  ·intro y0 y1 y2 y3
   unfold spec_TidyAll.l0
   repeat' first
   | (with_reducible exact ih0 _ _ _ _)
   | (with_reducible exact spec_SigsOf.mono _ _)
   | (with_reducible exact spec_Tidy.mono _ _ _ _ _)
   | (with_reducible exact spec_Valid.mono _ _)
   | (with_reducible exact LeO.refl _)
   | (with_reducible exact LeO.none _)
   | (with_reducible refine LeO.ite ?_ ?_)
   | (with_reducible refine LeO.bind ?_ (fun _ => ?_))
   | exact ih0 _ _ _ _
   | exact spec_SigsOf.mono _ _
   | exact spec_Tidy.mono _ _ _ _ _
   | exact spec_Valid.mono _ _
   | exact LeO.none _
   | refine LeO.ite ?_ ?_
   | refine LeO.bind ?_ (fun _ => ?_)
theorem spec_TidyAll.mono : ∀ a0 k, LeO (spec_TidyAll.f k a0) (spec_TidyAll.f (k + 1) a0) := by
 intro a0 k
 have ih0 := spec_TidyAll.mono_l k
 unfold spec_TidyAll.f
 repeat' first
   | (with_reducible exact ih0 _ _ _ _)
   | (with_reducible exact spec_SigsOf.mono _ _)
   | (with_reducible exact spec_Tidy.mono _ _ _ _ _)
   | (with_reducible exact spec_Valid.mono _ _)
   | (with_reducible exact LeO.refl _)
   | (with_reducible exact LeO.none _)
   | (with_reducible refine LeO.ite ?_ ?_)
   | (with_reducible refine LeO.bind ?_ (fun _ => ?_))
   | exact ih0 _ _ _ _
   | exact spec_SigsOf.mono _ _
   | exact spec_Tidy.mono _ _ _ _ _
   | exact spec_Valid.mono _ _
   | exact LeO.none _
   | refine LeO.ite ?_ ?_
   | refine LeO.bind ?_ (fun _ => ?_)
set_option maxHeartbeats 8000000 in
set_option maxRecDepth 100000 in
theorem spec_TidyAll.calls (k : Nat) (A0 : Option Addr) (c0 : Nat) (l0 : List (S30)) (r : Bool) (w : World) (HT0 : Tabs w) (hr0 : Kd.C k30 w A0 l0.length l0) (hc0 : l0.length ≤ c0) (h : spec_TidyAll.f k l0 = some r) :
  Calls Tryd.prog 9 #[.slice A0 l0.length c0] w fun e w' => e = .returned (.bool r) ∧ Below w.heap.size w w' := by
 have hu30 := Tryd.underlying30
 have HT := Aside0.mk HT0
 clear HT0
 have HR0 := Aside0.mk hr0
 have HC0 := Aside0.mk hc0
 clear hr0 hc0
 have HB := Aside0.mk (Below.refl w.heap.size w)
 have H : (spec_TidyAll.l0 k l0 l0 (l0.length : Int) 0) = some r := h
 clear h
 have H' := Aside0.mk H
 clear H
 go_enter Tryd.func9, Tryd.ntmps9
 go_wp2
 go_loopg [7] k (fun kq v7 w' => ∃ (x7_1 : Int), v7 = .int .i64 x7_1 ∧ Aside0 (spec_TidyAll.l0 kq l0 l0 (l0.length : Int) x7_1 = some r) ∧ Aside0 (kq ≤ k) ∧ Aside0 (Below w.heap.size w w'))
 case atStart => exact ⟨(0), (by first | rfl | (simp; done) | (simp [*]; done)), H', ⟨Nat.le_refl _⟩, ⟨by repeat (first | (with_reducible first | exact HB.out | apply below_alloc | apply pw_below_drewN | apply below_drew1) | exact HB.out)⟩⟩
 case round =>
  clear H'
  obtain ⟨x7_1, rfl, HA, HK1, HB⟩ := hrel
  cases gk with
  | zero => exact absurd HA.out (by simp [spec_TidyAll.l0])
  | succ k1 =>
   have H := HA.out
   clear HA
   simp only [spec_TidyAll.l0] at H
   by_cases c2 : x7_1 < (l0.length : Int)
   ·rw [if_pos c2] at H
    have c2b0 : decide (x7_1 < (l0.length : Int)) = true := decide_eq_true c2
    clear c2
    by_cases c3 : 0 ≤ x7_1
    ·rw [if_pos c3] at H
     have c3b0 : decide (0 ≤ x7_1) = true := decide_eq_true c3
     clear c3
     by_cases c4 : x7_1 < (l0.length : Int)
     ·rw [if_pos c4] at H
      have c4b0 : decide (x7_1 < (l0.length : Int)) = true := decide_eq_true c4
      clear c4
      replace H := Option.bind_eq_some_iff.mp H
      obtain ⟨t138, A50, H⟩ := H
      replace H : (if t138 = true then (spec_TidyAll.l0 k1 l0 l0 (l0.length : Int) (wrap64 (x7_1 + 1))) else (some false)) = some r := H
      have A5 := Aside0.mk A50
      clear A50
      by_cases c6 : t138 = true
      ·subst c6
       have H1 : (spec_TidyAll.l0 k1 l0 l0 (l0.length : Int) (wrap64 (x7_1 + 1))) = some r := by rw [if_pos rfl] at H; exact H
       clear H
       have H := H1
       clear H1
       have H' := Aside0.mk H
       clear H
       have p136 : 0 ≤ (x7_1 : Int) := of_decide_eq_true (by first | (with_reducible assumption) | assumption)
       have q136 : x7_1 < (l0.length : Int) := of_decide_eq_true (by first | (with_reducible assumption) | assumption)
       obtain ⟨ad136, A136_3, c136_3, e136, hx136_0, hx136_1, hx136_2, hx136_3, hl136_3, hi136_3⟩ := at_T30 HR0.out x7_1 p136 q136
       cases e136
       replace hx136_0 := (HB.out.cell (World.block_lt_of_cell? w _ hx136_0)).trans hx136_0
       replace hx136_1 := (HB.out.cell (World.block_lt_of_cell? w _ hx136_1)).trans hx136_1
       replace hx136_2 := (HB.out.cell (World.block_lt_of_cell? w _ hx136_2)).trans hx136_2
       replace hx136_3 := (HB.out.cell (World.block_lt_of_cell? w _ hx136_3)).trans hx136_3
       have HR136_3 := Aside0.mk hi136_3
       have HC136_3 := Aside0.mk hl136_3
       clear hi136_3 hl136_3
       replace p136 := eq_true p136
       replace q136 := eq_true q136
       go_wp2_with (first | ((with_reducible refine gate_dst (N := 4) rfl ?_); refine box_event ?hg (N := 4) ?hd (cs := #[.int .u8 0, .int .u64 0, .string (⟨#[]⟩ : ByteArray), .slice none 0 0]) (t := 30) ?hr ?_; (case hd => rfl); (case hg => rfl); (case hr => first | (go_simp; done) | (go_simp; rfl)); intro gb137 hg w7 hbox hb; have n0_ := Aside0.mk (below_step (by repeat (first | (with_reducible first | exact HB.out | apply below_alloc | apply pw_below_drewN | apply below_drew1) | exact HB.out)) hb); have n1_ := Aside0.mk (hbox); have n2_ := Aside0.mk ((by rw [hg]; exact (below_size (by repeat (first | (with_reducible first | exact HB.out | apply below_alloc | apply pw_below_drewN | apply below_drew1) | exact HB.out))) : w.heap.size ≤ gb137)); have n3_ := Aside0.mk ((by rw [hg]; exact (below_size (by repeat (first | (with_reducible first | exact HB.out | apply below_alloc | apply pw_below_drewN | apply below_drew1) | exact HB.out))) : w.heap.size ≤ gb137)); clear HB; have HB := n0_; have BK137 := n1_; have GW137 := n2_; have GE137 := n3_; clear n0_ n1_ n2_ n3_; clear hb hbox hg; have hcz8_0 : w7.cell? ⟨gb137, 0, none⟩ = some (.int .u8 0) := (blk_cell BK137.out 0).trans rfl; have hcz8_1 : w7.cell? ⟨gb137, 1, none⟩ = some (.int .u64 0) := (blk_cell BK137.out 1).trans rfl; have hcz8_2 : w7.cell? ⟨gb137, 2, none⟩ = some (.string (⟨#[]⟩ : ByteArray)) := (blk_cell BK137.out 2).trans rfl; have hcz8_3 : w7.cell? ⟨gb137, 3, none⟩ = some (.slice none 0 0) := (blk_cell BK137.out 3).trans rfl; have hfz8_0 := blk_frozen BK137.out 0; have hfz8_1 := blk_frozen BK137.out 1; have hfz8_2 := blk_frozen BK137.out 2; have hfz8_3 := blk_frozen BK137.out 3) | ((with_reducible refine gate_callee (f := 7) rfl ?_); refine goesL_ (some 12) rfl rfl Tryd.func7 (by kernel_rfl) rfl #[.agg #[.int .u8 ((rd_T30 l0 x7_1).f0), .int .u64 ((rd_T30 l0 x7_1).f1), .string ((rd_T30 l0 x7_1).f2), .slice A136_3 ((rd_T30 l0 x7_1).f3).length c136_3]] rfl (by (try simp only [List.map_toArray, List.map_cons, List.map_nil]); first | done | rfl | (simp only [List.length_drop, List.length_take]; rfl)) ?_; (with_reducible refine (spec_Tidy.calls k1 ((rd_T30 l0 x7_1).f0) ((rd_T30 l0 x7_1).f1) ((rd_T30 l0 x7_1).f2) _ _ ((rd_T30 l0 x7_1).f3) true _ (HT.out.below (by repeat (first | (with_reducible first | exact HB.out | apply below_alloc | apply pw_below_drewN | apply below_drew1 | refine below_set ?_ GE137.out) | exact HB.out))) ?side1 ?side2 A5.out).mono ?_); (case side1 => exact Kd.C_below HR136_3.out (by repeat (first | (with_reducible first | exact HB.out | apply below_alloc | apply pw_below_drewN | apply below_drew1 | refine below_set ?_ GE137.out) | exact HB.out))); (case side2 => exact HC136_3.out); rintro e w9 ⟨rfl, hb⟩; refine ⟨_, rfl, ?_⟩; have n0_ := Aside0.mk (blk_below (g := gb137) (o := .cells #[.int .u8 ((rd_T30 l0 x7_1).f0), .int .u64 ((rd_T30 l0 x7_1).f1), .string ((rd_T30 l0 x7_1).f2), .slice A136_3 ((rd_T30 l0 x7_1).f3).length c136_3] 30 (0, 0)) (by (with_reducible repeat (first | refine blk_drewN ?_ _ | refine blk_drew ?_ | refine blk_alloc ?_ _)); refine blk_put (cs := #[.int .u8 ((rd_T30 l0 x7_1).f0), .int .u64 ((rd_T30 l0 x7_1).f1), .string ((rd_T30 l0 x7_1).f2), .slice none 0 0]) ?_ 3 _ rfl; (with_reducible repeat (first | refine blk_drewN ?_ _ | refine blk_drew ?_ | refine blk_alloc ?_ _)); refine blk_put (cs := #[.int .u8 ((rd_T30 l0 x7_1).f0), .int .u64 ((rd_T30 l0 x7_1).f1), .string (⟨#[]⟩ : ByteArray), .slice none 0 0]) ?_ 2 _ rfl; (with_reducible repeat (first | refine blk_drewN ?_ _ | refine blk_drew ?_ | refine blk_alloc ?_ _)); refine blk_put (cs := #[.int .u8 ((rd_T30 l0 x7_1).f0), .int .u64 0, .string (⟨#[]⟩ : ByteArray), .slice none 0 0]) ?_ 1 _ rfl; (with_reducible repeat (first | refine blk_drewN ?_ _ | refine blk_drew ?_ | refine blk_alloc ?_ _)); refine blk_put (cs := #[.int .u8 0, .int .u64 0, .string (⟨#[]⟩ : ByteArray), .slice none 0 0]) ?_ 0 _ rfl; (with_reducible repeat (first | refine blk_drewN ?_ _ | refine blk_drew ?_ | refine blk_alloc ?_ _)); exact BK137.out) hb); have n1_ := Aside0.mk (below_step (by repeat (first | (with_reducible first | exact HB.out | apply below_alloc | apply pw_below_drewN | apply below_drew1 | refine below_set ?_ GE137.out) | exact HB.out)) hb); clear BK137; clear HB; have BK137 := n0_; have HB := n1_; clear n0_ n1_; (try clear hb); (try clear hb2); (try clear hk); (try clear hi)))
       go_roundg k1
       case measure => have := HK1.out; omega
       case rel => exact ⟨(wrap64 (x7_1 + 1)), (by first | rfl | (simp; done) | (simp [*]; done)), H', ⟨by have := HK1.out; omega⟩, ⟨by repeat (first | (with_reducible first | exact HB.out | apply below_alloc | apply pw_below_drewN | apply below_drew1 | refine below_set ?_ GE137.out) | exact HB.out)⟩⟩
      ·replace c6 := Bool.eq_false_iff.mpr c6
       subst c6
       have H1 : (some false) = some r := by rw [if_neg (show ¬ (false = true) by decide)] at H; exact H
       clear H
       have H := H1
       clear H1
       obtain rfl := Option.some.inj H
       have p136 : 0 ≤ (x7_1 : Int) := of_decide_eq_true (by first | (with_reducible assumption) | assumption)
       have q136 : x7_1 < (l0.length : Int) := of_decide_eq_true (by first | (with_reducible assumption) | assumption)
       obtain ⟨ad136, A136_3, c136_3, e136, hx136_0, hx136_1, hx136_2, hx136_3, hl136_3, hi136_3⟩ := at_T30 HR0.out x7_1 p136 q136
       cases e136
       replace hx136_0 := (HB.out.cell (World.block_lt_of_cell? w _ hx136_0)).trans hx136_0
       replace hx136_1 := (HB.out.cell (World.block_lt_of_cell? w _ hx136_1)).trans hx136_1
       replace hx136_2 := (HB.out.cell (World.block_lt_of_cell? w _ hx136_2)).trans hx136_2
       replace hx136_3 := (HB.out.cell (World.block_lt_of_cell? w _ hx136_3)).trans hx136_3
       have HR136_3 := Aside0.mk hi136_3
       have HC136_3 := Aside0.mk hl136_3
       clear hi136_3 hl136_3
       replace p136 := eq_true p136
       replace q136 := eq_true q136
       go_wp2_with (first | ((with_reducible refine gate_dst (N := 4) rfl ?_); refine box_event ?hg (N := 4) ?hd (cs := #[.int .u8 0, .int .u64 0, .string (⟨#[]⟩ : ByteArray), .slice none 0 0]) (t := 30) ?hr ?_; (case hd => rfl); (case hg => rfl); (case hr => first | (go_simp; done) | (go_simp; rfl)); intro gb137 hg w10 hbox hb; have n0_ := Aside0.mk (below_step (by repeat (first | (with_reducible first | exact HB.out | apply below_alloc | apply pw_below_drewN | apply below_drew1) | exact HB.out)) hb); have n1_ := Aside0.mk (hbox); have n2_ := Aside0.mk ((by rw [hg]; exact (below_size (by repeat (first | (with_reducible first | exact HB.out | apply below_alloc | apply pw_below_drewN | apply below_drew1) | exact HB.out))) : w.heap.size ≤ gb137)); have n3_ := Aside0.mk ((by rw [hg]; exact (below_size (by repeat (first | (with_reducible first | exact HB.out | apply below_alloc | apply pw_below_drewN | apply below_drew1) | exact HB.out))) : w.heap.size ≤ gb137)); clear HB; have HB := n0_; have BK137 := n1_; have GW137 := n2_; have GE137 := n3_; clear n0_ n1_ n2_ n3_; clear hb hbox hg; have hcz11_0 : w10.cell? ⟨gb137, 0, none⟩ = some (.int .u8 0) := (blk_cell BK137.out 0).trans rfl; have hcz11_1 : w10.cell? ⟨gb137, 1, none⟩ = some (.int .u64 0) := (blk_cell BK137.out 1).trans rfl; have hcz11_2 : w10.cell? ⟨gb137, 2, none⟩ = some (.string (⟨#[]⟩ : ByteArray)) := (blk_cell BK137.out 2).trans rfl; have hcz11_3 : w10.cell? ⟨gb137, 3, none⟩ = some (.slice none 0 0) := (blk_cell BK137.out 3).trans rfl; have hfz11_0 := blk_frozen BK137.out 0; have hfz11_1 := blk_frozen BK137.out 1; have hfz11_2 := blk_frozen BK137.out 2; have hfz11_3 := blk_frozen BK137.out 3) | ((with_reducible refine gate_callee (f := 7) rfl ?_); refine goesL_ (some 12) rfl rfl Tryd.func7 (by kernel_rfl) rfl #[.agg #[.int .u8 ((rd_T30 l0 x7_1).f0), .int .u64 ((rd_T30 l0 x7_1).f1), .string ((rd_T30 l0 x7_1).f2), .slice A136_3 ((rd_T30 l0 x7_1).f3).length c136_3]] rfl (by (try simp only [List.map_toArray, List.map_cons, List.map_nil]); first | done | rfl | (simp only [List.length_drop, List.length_take]; rfl)) ?_; (with_reducible refine (spec_Tidy.calls k1 ((rd_T30 l0 x7_1).f0) ((rd_T30 l0 x7_1).f1) ((rd_T30 l0 x7_1).f2) _ _ ((rd_T30 l0 x7_1).f3) false _ (HT.out.below (by repeat (first | (with_reducible first | exact HB.out | apply below_alloc | apply pw_below_drewN | apply below_drew1 | refine below_set ?_ GE137.out) | exact HB.out))) ?side1 ?side2 A5.out).mono ?_); (case side1 => exact Kd.C_below HR136_3.out (by repeat (first | (with_reducible first | exact HB.out | apply below_alloc | apply pw_below_drewN | apply below_drew1 | refine below_set ?_ GE137.out) | exact HB.out))); (case side2 => exact HC136_3.out); rintro e w12 ⟨rfl, hb⟩; refine ⟨_, rfl, ?_⟩; have n0_ := Aside0.mk (blk_below (g := gb137) (o := .cells #[.int .u8 ((rd_T30 l0 x7_1).f0), .int .u64 ((rd_T30 l0 x7_1).f1), .string ((rd_T30 l0 x7_1).f2), .slice A136_3 ((rd_T30 l0 x7_1).f3).length c136_3] 30 (0, 0)) (by (with_reducible repeat (first | refine blk_drewN ?_ _ | refine blk_drew ?_ | refine blk_alloc ?_ _)); refine blk_put (cs := #[.int .u8 ((rd_T30 l0 x7_1).f0), .int .u64 ((rd_T30 l0 x7_1).f1), .string ((rd_T30 l0 x7_1).f2), .slice none 0 0]) ?_ 3 _ rfl; (with_reducible repeat (first | refine blk_drewN ?_ _ | refine blk_drew ?_ | refine blk_alloc ?_ _)); refine blk_put (cs := #[.int .u8 ((rd_T30 l0 x7_1).f0), .int .u64 ((rd_T30 l0 x7_1).f1), .string (⟨#[]⟩ : ByteArray), .slice none 0 0]) ?_ 2 _ rfl; (with_reducible repeat (first | refine blk_drewN ?_ _ | refine blk_drew ?_ | refine blk_alloc ?_ _)); refine blk_put (cs := #[.int .u8 ((rd_T30 l0 x7_1).f0), .int .u64 0, .string (⟨#[]⟩ : ByteArray), .slice none 0 0]) ?_ 1 _ rfl; (with_reducible repeat (first | refine blk_drewN ?_ _ | refine blk_drew ?_ | refine blk_alloc ?_ _)); refine blk_put (cs := #[.int .u8 0, .int .u64 0, .string (⟨#[]⟩ : ByteArray), .slice none 0 0]) ?_ 0 _ rfl; (with_reducible repeat (first | refine blk_drewN ?_ _ | refine blk_drew ?_ | refine blk_alloc ?_ _)); exact BK137.out) hb); have n1_ := Aside0.mk (below_step (by repeat (first | (with_reducible first | exact HB.out | apply below_alloc | apply pw_below_drewN | apply below_drew1 | refine below_set ?_ GE137.out) | exact HB.out)) hb); clear BK137; clear HB; have BK137 := n0_; have HB := n1_; clear n0_ n1_; (try clear hb); (try clear hb2); (try clear hk); (try clear hi)))
       go_ret
       exact ⟨by rfl, by repeat (first | (with_reducible first | exact HB.out | apply below_alloc | apply pw_below_drewN | apply below_drew1 | refine below_set ?_ GE137.out) | exact HB.out)⟩
     ·rw [if_neg c4] at H
      exact absurd H (by simp)
    ·rw [if_neg c3] at H
     exact absurd H (by simp)
   ·rw [if_neg c2] at H
    have c2b0 : decide (x7_1 < (l0.length : Int)) = false := decide_eq_false c2
    clear c2
    replace H := Option.bind_eq_some_iff.mp H
    obtain ⟨t139, A130, H⟩ := H
    replace H : ((spec_Valid.f k1 t139).bind fun t140 => (some t140)) = some r := H
    have A13 := Aside0.mk A130
    clear A130
    replace H := Option.bind_eq_some_iff.mp H
    obtain ⟨t140, A140, H⟩ := H
    replace H : (some t140) = some r := H
    have A14 := Aside0.mk A140
    clear A140
    obtain rfl := Option.some.inj H
    go_wp2_with (first | ((with_reducible refine gate_callee (f := 15) rfl ?_); refine goesL_ (some 16) rfl rfl Tryd.func15 (by kernel_rfl) rfl #[.slice A0 l0.length c0] rfl (by (try simp only [List.map_toArray, List.map_cons, List.map_nil]); first | done | rfl | (simp only [List.length_drop, List.length_take]; rfl)) ?_; (with_reducible refine (spec_SigsOf.calls k1 _ _ l0 t139 _ ?side1 ?side2 A13.out).mono ?_); (case side1 => repeat (first | exact (Kd.C_below HR0.out HB.out) | (with_reducible refine Kd.C_alloc ?_ _) | (with_reducible refine Kd.C_drewN ?_ _) | (with_reducible refine Kd.C_drew ?_))); (case side2 => exact HC0.out); rintro e w15 ⟨rfl, hb⟩; refine ⟨_, rfl, ?_⟩; have n0_ := Aside0.mk (below_step (by repeat (first | (with_reducible first | exact HB.out | apply below_alloc | apply pw_below_drewN | apply below_drew1) | exact HB.out)) hb); clear HB; have HB := n0_; clear n0_; (try clear hb); (try clear hb2); (try clear hk); (try clear hi)) | ((with_reducible refine gate_callee (f := 12) rfl ?_); refine goesL_ (some 17) rfl rfl Tryd.func12 (by kernel_rfl) rfl #[.string t139] rfl (by (try simp only [List.map_toArray, List.map_cons, List.map_nil]); first | done | rfl | (simp only [List.length_drop, List.length_take]; rfl)) ?_; (with_reducible refine (spec_Valid.calls k1 t139 t140 _ A14.out).mono ?_); rintro e w16 ⟨rfl, hb⟩; refine ⟨_, rfl, ?_⟩; have n0_ := Aside0.mk (below_step (by repeat (first | (with_reducible first | exact HB.out | apply below_alloc | apply pw_below_drewN | apply below_drew1) | exact HB.out)) hb); clear HB; have HB := n0_; clear n0_; (try clear hb); (try clear hb2); (try clear hk); (try clear hi)))
    go_ret
    exact ⟨by rfl, by repeat (first | (with_reducible first | exact HB.out | apply below_alloc | apply pw_below_drewN | apply below_drew1) | exact HB.out)⟩

end Go.Proofs.YtoaehanfknjngaaDoor.Q

-- Written by a program of this session out of the translation; Lean checks it.
namespace Go.Proofs.YtoaehanfknjngaaDoor.Q
open Go.RowKit Go.Proofs.YtoaehanfknjngaaDoor.L Go.Proofs.YtoaehanfknjngaaDoor.Gd Go.Proofs.YtoaehanfknjngaaDoor.Sb Go.Proofs.YtoaehanfknjngaaDoor.Vs Go.Proofs.YtoaehanfknjngaaDoorW.PrintWords Go.Proofs.YtoaehanfknjngaaDoorW.PrintLast Go.Proofs.YtoaehanfknjngaaDoorW.PrintMore
attribute [local go_sem] max2_int min2_int max_two min_two max_three min_three max_four min_four   -- for this text's walks alone
set_option linter.unusedVariables false
set_option linter.unusedSimpArgs false

mutual
def laws_sgSmall.j0 : Nat → List (S30) → Bool → Option (Bool)
 | 0, _, _ => none
 | k + 1, x0, x12 => if x12 = true then (some false) else (laws_sgSmall.l0 k x0 x0 (x0.length : Int) 0)
def laws_sgSmall.l0 : Nat → List (S30) → List (S30) → Int → Int → Option (Bool)
 | 0, _, _, _, _ => none
 | k + 1, x0, x13, x14, x15 => if x15 < x14 then (if 0 ≤ x15 then (if x15 < (x13.length : Int) then ((spec_Tidy.f k ((rd_T30 x13 x15).f0) ((rd_T30 x13 x15).f1) ((rd_T30 x13 x15).f2) ((rd_T30 x13 x15).f3)).bind fun t145 => (if t145 = true then ((laws_sgKeys.f k ((rd_T30 x13 x15).f0) ((rd_T30 x13 x15).f1) ((rd_T30 x13 x15).f2) ((rd_T30 x13 x15).f3)).bind fun t146 => (if t146 = true then (laws_sgSmall.l0 k x0 x13 x14 (wrap64 (x15 + 1))) else (some false))) else (some false))) else (none)) else (none)) else ((spec_TidyAll.f k x0).bind fun t142 => (some t142))
end
def laws_sgSmall.f (k : Nat) (l0 : List (S30)) : Option (Bool) := if (l0.length : Int) > 50 then (laws_sgSmall.j0 k l0 true) else ((laws_sgBounded.f k l0 300).bind fun t141 => (laws_sgSmall.j0 k l0 (!t141)))
theorem laws_sgSmall.mono_l : ∀ k, (∀ y0 y1, LeO (laws_sgSmall.j0 k y0 y1) (laws_sgSmall.j0 (k + 1) y0 y1)) ∧ (∀ y0 y1 y2 y3, LeO (laws_sgSmall.l0 k y0 y1 y2 y3) (laws_sgSmall.l0 (k + 1) y0 y1 y2 y3))
 | 0 => ⟨fun _ _ r h => by simp [laws_sgSmall.j0] at h, fun _ _ _ _ r h => by simp [laws_sgSmall.l0] at h⟩
 | k + 1 => by
  obtain ⟨ih0, ih1⟩ := laws_sgSmall.mono_l k
  refine ⟨?_, ?_⟩
  ·intro y0 y1
   unfold laws_sgSmall.j0
   repeat' first
   | (with_reducible exact ih0 _ _)
   | (with_reducible exact ih1 _ _ _ _)
   | (with_reducible exact laws_sgBounded.mono _ _ _)
   | (with_reducible exact laws_sgKeys.mono _ _ _ _ _)
   | (with_reducible exact spec_Tidy.mono _ _ _ _ _)
   | (with_reducible exact spec_TidyAll.mono _ _)
   | (with_reducible exact LeO.refl _)
   | (with_reducible exact LeO.none _)
   | (with_reducible refine LeO.ite ?_ ?_)
   | (with_reducible refine LeO.bind ?_ (fun _ => ?_))
   | exact ih0 _ _
   | exact ih1 _ _ _ _
   | exact laws_sgBounded.mono _ _ _
   | exact laws_sgKeys.mono _ _ _ _ _
   | exact spec_Tidy.mono _ _ _ _ _
   | exact spec_TidyAll.mono _ _
   | exact LeO.none _
   | refine LeO.ite ?_ ?_
   | refine LeO.bind ?_ (fun _ => ?_)
  ·intro y0 y1 y2 y3
   unfold laws_sgSmall.l0
   repeat' first
   | (with_reducible exact ih0 _ _)
   | (with_reducible exact ih1 _ _ _ _)
   | (with_reducible exact laws_sgBounded.mono _ _ _)
   | (with_reducible exact laws_sgKeys.mono _ _ _ _ _)
   | (with_reducible exact spec_Tidy.mono _ _ _ _ _)
   | (with_reducible exact spec_TidyAll.mono _ _)
   | (with_reducible exact LeO.refl _)
   | (with_reducible exact LeO.none _)
   | (with_reducible refine LeO.ite ?_ ?_)
   | (with_reducible refine LeO.bind ?_ (fun _ => ?_))
   | exact ih0 _ _
   | exact ih1 _ _ _ _
   | exact laws_sgBounded.mono _ _ _
   | exact laws_sgKeys.mono _ _ _ _ _
   | exact spec_Tidy.mono _ _ _ _ _
   | exact spec_TidyAll.mono _ _
   | exact LeO.none _
   | refine LeO.ite ?_ ?_
   | refine LeO.bind ?_ (fun _ => ?_)
theorem laws_sgSmall.mono : ∀ a0 k, LeO (laws_sgSmall.f k a0) (laws_sgSmall.f (k + 1) a0) := by
 intro a0 k
 obtain ⟨ih0, ih1⟩ := laws_sgSmall.mono_l k
 unfold laws_sgSmall.f
 repeat' first
   | (with_reducible exact ih0 _ _)
   | (with_reducible exact ih1 _ _ _ _)
   | (with_reducible exact laws_sgBounded.mono _ _ _)
   | (with_reducible exact laws_sgKeys.mono _ _ _ _ _)
   | (with_reducible exact spec_Tidy.mono _ _ _ _ _)
   | (with_reducible exact spec_TidyAll.mono _ _)
   | (with_reducible exact LeO.refl _)
   | (with_reducible exact LeO.none _)
   | (with_reducible refine LeO.ite ?_ ?_)
   | (with_reducible refine LeO.bind ?_ (fun _ => ?_))
   | exact ih0 _ _
   | exact ih1 _ _ _ _
   | exact laws_sgBounded.mono _ _ _
   | exact laws_sgKeys.mono _ _ _ _ _
   | exact spec_Tidy.mono _ _ _ _ _
   | exact spec_TidyAll.mono _ _
   | exact LeO.none _
   | refine LeO.ite ?_ ?_
   | refine LeO.bind ?_ (fun _ => ?_)
set_option maxHeartbeats 8000000 in
set_option maxRecDepth 100000 in
theorem laws_sgSmall.calls (k : Nat) (A0 : Option Addr) (c0 : Nat) (l0 : List (S30)) (r : Bool) (w : World) (HT0 : Tabs w) (hr0 : Kd.C k30 w A0 l0.length l0) (hc0 : l0.length ≤ c0) (h : laws_sgSmall.f k l0 = some r) :
  Calls Tryd.prog 4 #[.slice A0 l0.length c0] w fun e w' => e = .returned (.bool r) ∧ Below w.heap.size w w' := by
 have hu30 := Tryd.underlying30
 have HT := Aside0.mk HT0
 clear HT0
 have HR0 := Aside0.mk hr0
 have HC0 := Aside0.mk hc0
 clear hr0 hc0
 have HB := Aside0.mk (Below.refl w.heap.size w)
 have H : (if (l0.length : Int) > 50 then (laws_sgSmall.j0 k l0 true) else ((laws_sgBounded.f k l0 300).bind fun t141 => (laws_sgSmall.j0 k l0 (!t141)))) = some r := h
 clear h
 have HC2 := Aside0.mk H
 clear H
 go_enter Tryd.func4, Tryd.ntmps4
 go_upto_region 1 with (fail)
 go_cut [12] (fun v12 wc => ∃ (kq : Nat) (x12_1 : Bool), v12 = .bool x12_1 ∧ Aside0 (laws_sgSmall.j0 kq l0 x12_1 = some r) ∧ Aside0 (kq ≤ k) ∧ Aside0 (Below w.heap.size w wc))
 case first =>
  have H := HC2.out
  clear HC2
  by_cases c3 : (l0.length : Int) > 50
  ·rw [if_pos c3] at H
   have c3b0 : decide (50 < (l0.length : Int)) = true := decide_eq_true c3
   have c3b1 : decide (50 < l0.length) = true := decide_eq_true (by omega)
   clear c3
   (first | rw [c3b0] | (simp only [i64_w, i32_w]; rw [c3b0]) | skip)
   have H' := Aside0.mk H
   clear H
   go_wp2
   go_meet
   case rel => exact ⟨_, (true), (by first | rfl | (simp; done) | (simp [*]; done)), H', ⟨by first | omega | exact Nat.le_refl _⟩, ⟨by repeat (first | (with_reducible first | exact HB.out | apply below_alloc | apply pw_below_drewN | apply below_drew1) | exact HB.out)⟩⟩
  ·rw [if_neg c3] at H
   have c3b0 : decide (50 < (l0.length : Int)) = false := decide_eq_false c3
   have c3b1 : decide (50 < l0.length) = false := decide_eq_false (by omega)
   clear c3
   (first | rw [c3b0] | (simp only [i64_w, i32_w]; rw [c3b0]) | skip)
   replace H := Option.bind_eq_some_iff.mp H
   obtain ⟨t141, A40, H⟩ := H
   replace H : (laws_sgSmall.j0 k l0 (!t141)) = some r := H
   have A4 := Aside0.mk A40
   clear A40
   have H' := Aside0.mk H
   clear H
   go_wp2_with (first | (go_at_call 6; (with_reducible refine (laws_sgBounded.calls k _ _ l0 300 t141 _ ?side1 ?side2 A4.out).mono ?_); (case side1 => repeat (first | exact (Kd.C_below HR0.out HB.out) | (with_reducible refine Kd.C_alloc ?_ _) | (with_reducible refine Kd.C_drewN ?_ _) | (with_reducible refine Kd.C_drew ?_))); (case side2 => exact HC0.out); rintro e w5 ⟨rfl, hb⟩; have n0_ := Aside0.mk (below_step (by repeat (first | (with_reducible first | exact HB.out | apply below_alloc | apply pw_below_drewN | apply below_drew1) | exact HB.out)) hb); clear HB; have HB := n0_; clear n0_; (try clear hb); (try clear hb2); (try clear hk); (try clear hi)))
   go_meet
   case rel => exact ⟨_, (!t141), (by first | rfl | (simp; done) | (simp [*]; done)), H', ⟨by first | omega | exact Nat.le_refl _⟩, ⟨by repeat (first | (with_reducible first | exact HB.out | apply below_alloc | apply pw_below_drewN | apply below_drew1) | exact HB.out)⟩⟩
 case rest =>
  clear HC2
  (try clear p2); (try clear c3); (try clear c3b0); (try clear c3b1); (try clear c4)
  obtain ⟨kq, x12_1, rfl, HA, HJ1, HB⟩ := hcut
  cases kq with
  | zero => exact absurd HA.out (by simp [laws_sgSmall.j0])
  | succ kj1 =>
   have H := HA.out
   clear HA
   simp only [laws_sgSmall.j0] at H
   by_cases c6 : x12_1 = true
   ·subst c6
    have H1 : (some false) = some r := by rw [if_pos rfl] at H; exact H
    clear H
    have H := H1
    clear H1
    obtain rfl := Option.some.inj H
    go_wp2
    go_ret
    exact ⟨by rfl, by repeat (first | (with_reducible first | exact HB.out | apply below_alloc | apply pw_below_drewN | apply below_drew1) | exact HB.out)⟩
   ·replace c6 := Bool.eq_false_iff.mpr c6
    subst c6
    have H1 : (laws_sgSmall.l0 kj1 l0 l0 (l0.length : Int) 0) = some r := by rw [if_neg (show ¬ (false = true) by decide)] at H; exact H
    clear H
    have H := H1
    clear H1
    have H' := Aside0.mk H
    clear H
    go_wp2
    go_loopg [15] kj1 (fun kq v15 w' => ∃ (x15_2 : Int), v15 = .int .i64 x15_2 ∧ Aside0 (laws_sgSmall.l0 kq l0 l0 (l0.length : Int) x15_2 = some r) ∧ Aside0 (kq ≤ kj1) ∧ Aside0 (Below w.heap.size w w'))
    case atStart => exact ⟨(0), (by first | rfl | (simp; done) | (simp [*]; done)), H', ⟨Nat.le_refl _⟩, ⟨by repeat (first | (with_reducible first | exact HB.out | apply below_alloc | apply pw_below_drewN | apply below_drew1) | exact HB.out)⟩⟩
    case round =>
     clear H'
     (try clear p2); (try clear c3); (try clear c3b0); (try clear c3b1); (try clear c4); (try clear c6); (try clear p2)
     obtain ⟨x15_2, rfl, HA, HK2, HB⟩ := hrel
     cases gk with
     | zero => exact absurd HA.out (by simp [laws_sgSmall.l0])
     | succ k2 =>
      have H := HA.out
      clear HA
      simp only [laws_sgSmall.l0] at H
      by_cases c7 : x15_2 < (l0.length : Int)
      ·rw [if_pos c7] at H
       have c7b0 : decide (x15_2 < (l0.length : Int)) = true := decide_eq_true c7
       clear c7
       by_cases c8 : 0 ≤ x15_2
       ·rw [if_pos c8] at H
        have c8b0 : decide (0 ≤ x15_2) = true := decide_eq_true c8
        clear c8
        by_cases c9 : x15_2 < (l0.length : Int)
        ·rw [if_pos c9] at H
         have c9b0 : decide (x15_2 < (l0.length : Int)) = true := decide_eq_true c9
         clear c9
         replace H := Option.bind_eq_some_iff.mp H
         obtain ⟨t145, A100, H⟩ := H
         replace H : (if t145 = true then ((laws_sgKeys.f k2 ((rd_T30 l0 x15_2).f0) ((rd_T30 l0 x15_2).f1) ((rd_T30 l0 x15_2).f2) ((rd_T30 l0 x15_2).f3)).bind fun t146 => (if t146 = true then (laws_sgSmall.l0 k2 l0 l0 (l0.length : Int) (wrap64 (x15_2 + 1))) else (some false))) else (some false)) = some r := H
         have A10 := Aside0.mk A100
         clear A100
         by_cases c11 : t145 = true
         ·subst c11
          have H1 : ((laws_sgKeys.f k2 ((rd_T30 l0 x15_2).f0) ((rd_T30 l0 x15_2).f1) ((rd_T30 l0 x15_2).f2) ((rd_T30 l0 x15_2).f3)).bind fun t146 => (if t146 = true then (laws_sgSmall.l0 k2 l0 l0 (l0.length : Int) (wrap64 (x15_2 + 1))) else (some false))) = some r := by rw [if_pos rfl] at H; exact H
          clear H
          have H := H1
          clear H1
          replace H := Option.bind_eq_some_iff.mp H
          obtain ⟨t146, A120, H⟩ := H
          replace H : (if t146 = true then (laws_sgSmall.l0 k2 l0 l0 (l0.length : Int) (wrap64 (x15_2 + 1))) else (some false)) = some r := H
          have A12 := Aside0.mk A120
          clear A120
          by_cases c13 : t146 = true
          ·subst c13
           have H1 : (laws_sgSmall.l0 k2 l0 l0 (l0.length : Int) (wrap64 (x15_2 + 1))) = some r := by rw [if_pos rfl] at H; exact H
           clear H
           have H := H1
           clear H1
           have H' := Aside0.mk H
           clear H
           have p143 : 0 ≤ (x15_2 : Int) := of_decide_eq_true (by first | (with_reducible assumption) | assumption)
           have q143 : x15_2 < (l0.length : Int) := of_decide_eq_true (by first | (with_reducible assumption) | assumption)
           obtain ⟨ad143, A143_3, c143_3, e143, hx143_0, hx143_1, hx143_2, hx143_3, hl143_3, hi143_3⟩ := at_T30 HR0.out x15_2 p143 q143
           cases e143
           replace hx143_0 := (HB.out.cell (World.block_lt_of_cell? w _ hx143_0)).trans hx143_0
           replace hx143_1 := (HB.out.cell (World.block_lt_of_cell? w _ hx143_1)).trans hx143_1
           replace hx143_2 := (HB.out.cell (World.block_lt_of_cell? w _ hx143_2)).trans hx143_2
           replace hx143_3 := (HB.out.cell (World.block_lt_of_cell? w _ hx143_3)).trans hx143_3
           have HR143_3 := Aside0.mk hi143_3
           have HC143_3 := Aside0.mk hl143_3
           clear hi143_3 hl143_3
           replace p143 := eq_true p143
           replace q143 := eq_true q143
           go_wp2_with (first | ((with_reducible refine gate_dst (N := 4) rfl ?_); refine box_event ?hg (N := 4) ?hd (cs := #[.int .u8 0, .int .u64 0, .string (⟨#[]⟩ : ByteArray), .slice none 0 0]) (t := 30) ?hr ?_; (case hd => rfl); (case hg => rfl); (case hr => first | (go_simp; done) | (go_simp; rfl)); intro gb144 hg w14 hbox hb; have n0_ := Aside0.mk (below_step (by repeat (first | (with_reducible first | exact HB.out | apply below_alloc | apply pw_below_drewN | apply below_drew1) | exact HB.out)) hb); have n1_ := Aside0.mk (hbox); have n2_ := Aside0.mk ((by rw [hg]; exact (below_size (by repeat (first | (with_reducible first | exact HB.out | apply below_alloc | apply pw_below_drewN | apply below_drew1) | exact HB.out))) : w.heap.size ≤ gb144)); have n3_ := Aside0.mk ((by rw [hg]; exact (below_size (by repeat (first | (with_reducible first | exact HB.out | apply below_alloc | apply pw_below_drewN | apply below_drew1) | exact HB.out))) : w.heap.size ≤ gb144)); clear HB; have HB := n0_; have BK144 := n1_; have GW144 := n2_; have GE144 := n3_; clear n0_ n1_ n2_ n3_; clear hb hbox hg; have hcz15_0 : w14.cell? ⟨gb144, 0, none⟩ = some (.int .u8 0) := (blk_cell BK144.out 0).trans rfl; have hcz15_1 : w14.cell? ⟨gb144, 1, none⟩ = some (.int .u64 0) := (blk_cell BK144.out 1).trans rfl; have hcz15_2 : w14.cell? ⟨gb144, 2, none⟩ = some (.string (⟨#[]⟩ : ByteArray)) := (blk_cell BK144.out 2).trans rfl; have hcz15_3 : w14.cell? ⟨gb144, 3, none⟩ = some (.slice none 0 0) := (blk_cell BK144.out 3).trans rfl; have hfz15_0 := blk_frozen BK144.out 0; have hfz15_1 := blk_frozen BK144.out 1; have hfz15_2 := blk_frozen BK144.out 2; have hfz15_3 := blk_frozen BK144.out 3) | ((with_reducible refine gate_callee (f := 7) rfl ?_); refine goesL_ (some 20) rfl rfl Tryd.func7 (by kernel_rfl) rfl #[.agg #[.int .u8 ((rd_T30 l0 x15_2).f0), .int .u64 ((rd_T30 l0 x15_2).f1), .string ((rd_T30 l0 x15_2).f2), .slice A143_3 ((rd_T30 l0 x15_2).f3).length c143_3]] rfl (by (try simp only [List.map_toArray, List.map_cons, List.map_nil]); first | done | rfl | (simp only [List.length_drop, List.length_take]; rfl)) ?_; (with_reducible refine (spec_Tidy.calls k2 ((rd_T30 l0 x15_2).f0) ((rd_T30 l0 x15_2).f1) ((rd_T30 l0 x15_2).f2) _ _ ((rd_T30 l0 x15_2).f3) true _ (HT.out.below (by repeat (first | (with_reducible first | exact HB.out | apply below_alloc | apply pw_below_drewN | apply below_drew1 | refine below_set ?_ GE144.out) | exact HB.out))) ?side1 ?side2 A10.out).mono ?_); (case side1 => exact Kd.C_below HR143_3.out (by repeat (first | (with_reducible first | exact HB.out | apply below_alloc | apply pw_below_drewN | apply below_drew1 | refine below_set ?_ GE144.out) | exact HB.out))); (case side2 => exact HC143_3.out); rintro e w16 ⟨rfl, hb⟩; refine ⟨_, rfl, ?_⟩; have n0_ := Aside0.mk (blk_below (g := gb144) (o := .cells #[.int .u8 ((rd_T30 l0 x15_2).f0), .int .u64 ((rd_T30 l0 x15_2).f1), .string ((rd_T30 l0 x15_2).f2), .slice A143_3 ((rd_T30 l0 x15_2).f3).length c143_3] 30 (0, 0)) (by (with_reducible repeat (first | refine blk_drewN ?_ _ | refine blk_drew ?_ | refine blk_alloc ?_ _)); refine blk_put (cs := #[.int .u8 ((rd_T30 l0 x15_2).f0), .int .u64 ((rd_T30 l0 x15_2).f1), .string ((rd_T30 l0 x15_2).f2), .slice none 0 0]) ?_ 3 _ rfl; (with_reducible repeat (first | refine blk_drewN ?_ _ | refine blk_drew ?_ | refine blk_alloc ?_ _)); refine blk_put (cs := #[.int .u8 ((rd_T30 l0 x15_2).f0), .int .u64 ((rd_T30 l0 x15_2).f1), .string (⟨#[]⟩ : ByteArray), .slice none 0 0]) ?_ 2 _ rfl; (with_reducible repeat (first | refine blk_drewN ?_ _ | refine blk_drew ?_ | refine blk_alloc ?_ _)); refine blk_put (cs := #[.int .u8 ((rd_T30 l0 x15_2).f0), .int .u64 0, .string (⟨#[]⟩ : ByteArray), .slice none 0 0]) ?_ 1 _ rfl; (with_reducible repeat (first | refine blk_drewN ?_ _ | refine blk_drew ?_ | refine blk_alloc ?_ _)); refine blk_put (cs := #[.int .u8 0, .int .u64 0, .string (⟨#[]⟩ : ByteArray), .slice none 0 0]) ?_ 0 _ rfl; (with_reducible repeat (first | refine blk_drewN ?_ _ | refine blk_drew ?_ | refine blk_alloc ?_ _)); exact BK144.out) hb); have n1_ := Aside0.mk (below_step (by repeat (first | (with_reducible first | exact HB.out | apply below_alloc | apply pw_below_drewN | apply below_drew1 | refine below_set ?_ GE144.out) | exact HB.out)) hb); clear BK144; clear HB; have BK144 := n0_; have HB := n1_; clear n0_ n1_; (try clear hb); (try clear hb2); (try clear hk); (try clear hi); have hcz17_0 : w16.cell? ⟨gb144, 0, none⟩ = some (.int .u8 ((rd_T30 l0 x15_2).f0)) := (blk_cell BK144.out 0).trans rfl; have hcz17_1 : w16.cell? ⟨gb144, 1, none⟩ = some (.int .u64 ((rd_T30 l0 x15_2).f1)) := (blk_cell BK144.out 1).trans rfl; have hcz17_2 : w16.cell? ⟨gb144, 2, none⟩ = some (.string ((rd_T30 l0 x15_2).f2)) := (blk_cell BK144.out 2).trans rfl; have hcz17_3 : w16.cell? ⟨gb144, 3, none⟩ = some (.slice A143_3 ((rd_T30 l0 x15_2).f3).length c143_3) := (blk_cell BK144.out 3).trans rfl; have hfz17_0 := blk_frozen BK144.out 0; have hfz17_1 := blk_frozen BK144.out 1; have hfz17_2 := blk_frozen BK144.out 2; have hfz17_3 := blk_frozen BK144.out 3) | (go_at_call 8; (with_reducible refine (laws_sgKeys.calls k2 ((rd_T30 l0 x15_2).f0) ((rd_T30 l0 x15_2).f1) ((rd_T30 l0 x15_2).f2) _ _ ((rd_T30 l0 x15_2).f3) true _ ?side1 ?side2 A12.out).mono ?_); (case side1 => repeat (first | exact (Kd.C_below HR143_3.out HB.out) | (with_reducible refine Kd.C_alloc ?_ _) | (with_reducible refine Kd.C_drewN ?_ _) | (with_reducible refine Kd.C_drew ?_))); (case side2 => exact HC143_3.out); rintro e w18 ⟨rfl, hb⟩; have n0_ := Aside0.mk (blk_below (g := gb144) (o := .cells #[.int .u8 ((rd_T30 l0 x15_2).f0), .int .u64 ((rd_T30 l0 x15_2).f1), .string ((rd_T30 l0 x15_2).f2), .slice A143_3 ((rd_T30 l0 x15_2).f3).length c143_3] 30 (0, 0)) (by (with_reducible repeat (first | refine blk_drewN ?_ _ | refine blk_drew ?_ | refine blk_alloc ?_ _)); exact BK144.out) hb); have n1_ := Aside0.mk (below_step (by repeat (first | (with_reducible first | exact HB.out | apply below_alloc | apply pw_below_drewN | apply below_drew1 | refine below_set ?_ GE144.out) | exact HB.out)) hb); clear BK144; clear HB; have BK144 := n0_; have HB := n1_; clear n0_ n1_; (try clear hb); (try clear hb2); (try clear hk); (try clear hi)))
           go_roundg k2
           case measure => have := HJ1.out; have := HK2.out; omega
           case rel => exact ⟨(wrap64 (x15_2 + 1)), (by first | rfl | (simp; done) | (simp [*]; done)), H', ⟨by have := HJ1.out; have := HK2.out; omega⟩, ⟨by repeat (first | (with_reducible first | exact HB.out | apply below_alloc | apply pw_below_drewN | apply below_drew1 | refine below_set ?_ GE144.out) | exact HB.out)⟩⟩
          ·replace c13 := Bool.eq_false_iff.mpr c13
           subst c13
           have H1 : (some false) = some r := by rw [if_neg (show ¬ (false = true) by decide)] at H; exact H
           clear H
           have H := H1
           clear H1
           obtain rfl := Option.some.inj H
           have p143 : 0 ≤ (x15_2 : Int) := of_decide_eq_true (by first | (with_reducible assumption) | assumption)
           have q143 : x15_2 < (l0.length : Int) := of_decide_eq_true (by first | (with_reducible assumption) | assumption)
           obtain ⟨ad143, A143_3, c143_3, e143, hx143_0, hx143_1, hx143_2, hx143_3, hl143_3, hi143_3⟩ := at_T30 HR0.out x15_2 p143 q143
           cases e143
           replace hx143_0 := (HB.out.cell (World.block_lt_of_cell? w _ hx143_0)).trans hx143_0
           replace hx143_1 := (HB.out.cell (World.block_lt_of_cell? w _ hx143_1)).trans hx143_1
           replace hx143_2 := (HB.out.cell (World.block_lt_of_cell? w _ hx143_2)).trans hx143_2
           replace hx143_3 := (HB.out.cell (World.block_lt_of_cell? w _ hx143_3)).trans hx143_3
           have HR143_3 := Aside0.mk hi143_3
           have HC143_3 := Aside0.mk hl143_3
           clear hi143_3 hl143_3
           replace p143 := eq_true p143
           replace q143 := eq_true q143
           go_wp2_with (first | ((with_reducible refine gate_dst (N := 4) rfl ?_); refine box_event ?hg (N := 4) ?hd (cs := #[.int .u8 0, .int .u64 0, .string (⟨#[]⟩ : ByteArray), .slice none 0 0]) (t := 30) ?hr ?_; (case hd => rfl); (case hg => rfl); (case hr => first | (go_simp; done) | (go_simp; rfl)); intro gb144 hg w19 hbox hb; have n0_ := Aside0.mk (below_step (by repeat (first | (with_reducible first | exact HB.out | apply below_alloc | apply pw_below_drewN | apply below_drew1) | exact HB.out)) hb); have n1_ := Aside0.mk (hbox); have n2_ := Aside0.mk ((by rw [hg]; exact (below_size (by repeat (first | (with_reducible first | exact HB.out | apply below_alloc | apply pw_below_drewN | apply below_drew1) | exact HB.out))) : w.heap.size ≤ gb144)); have n3_ := Aside0.mk ((by rw [hg]; exact (below_size (by repeat (first | (with_reducible first | exact HB.out | apply below_alloc | apply pw_below_drewN | apply below_drew1) | exact HB.out))) : w.heap.size ≤ gb144)); clear HB; have HB := n0_; have BK144 := n1_; have GW144 := n2_; have GE144 := n3_; clear n0_ n1_ n2_ n3_; clear hb hbox hg; have hcz20_0 : w19.cell? ⟨gb144, 0, none⟩ = some (.int .u8 0) := (blk_cell BK144.out 0).trans rfl; have hcz20_1 : w19.cell? ⟨gb144, 1, none⟩ = some (.int .u64 0) := (blk_cell BK144.out 1).trans rfl; have hcz20_2 : w19.cell? ⟨gb144, 2, none⟩ = some (.string (⟨#[]⟩ : ByteArray)) := (blk_cell BK144.out 2).trans rfl; have hcz20_3 : w19.cell? ⟨gb144, 3, none⟩ = some (.slice none 0 0) := (blk_cell BK144.out 3).trans rfl; have hfz20_0 := blk_frozen BK144.out 0; have hfz20_1 := blk_frozen BK144.out 1; have hfz20_2 := blk_frozen BK144.out 2; have hfz20_3 := blk_frozen BK144.out 3) | ((with_reducible refine gate_callee (f := 7) rfl ?_); refine goesL_ (some 20) rfl rfl Tryd.func7 (by kernel_rfl) rfl #[.agg #[.int .u8 ((rd_T30 l0 x15_2).f0), .int .u64 ((rd_T30 l0 x15_2).f1), .string ((rd_T30 l0 x15_2).f2), .slice A143_3 ((rd_T30 l0 x15_2).f3).length c143_3]] rfl (by (try simp only [List.map_toArray, List.map_cons, List.map_nil]); first | done | rfl | (simp only [List.length_drop, List.length_take]; rfl)) ?_; (with_reducible refine (spec_Tidy.calls k2 ((rd_T30 l0 x15_2).f0) ((rd_T30 l0 x15_2).f1) ((rd_T30 l0 x15_2).f2) _ _ ((rd_T30 l0 x15_2).f3) true _ (HT.out.below (by repeat (first | (with_reducible first | exact HB.out | apply below_alloc | apply pw_below_drewN | apply below_drew1 | refine below_set ?_ GE144.out) | exact HB.out))) ?side1 ?side2 A10.out).mono ?_); (case side1 => exact Kd.C_below HR143_3.out (by repeat (first | (with_reducible first | exact HB.out | apply below_alloc | apply pw_below_drewN | apply below_drew1 | refine below_set ?_ GE144.out) | exact HB.out))); (case side2 => exact HC143_3.out); rintro e w21 ⟨rfl, hb⟩; refine ⟨_, rfl, ?_⟩; have n0_ := Aside0.mk (blk_below (g := gb144) (o := .cells #[.int .u8 ((rd_T30 l0 x15_2).f0), .int .u64 ((rd_T30 l0 x15_2).f1), .string ((rd_T30 l0 x15_2).f2), .slice A143_3 ((rd_T30 l0 x15_2).f3).length c143_3] 30 (0, 0)) (by (with_reducible repeat (first | refine blk_drewN ?_ _ | refine blk_drew ?_ | refine blk_alloc ?_ _)); refine blk_put (cs := #[.int .u8 ((rd_T30 l0 x15_2).f0), .int .u64 ((rd_T30 l0 x15_2).f1), .string ((rd_T30 l0 x15_2).f2), .slice none 0 0]) ?_ 3 _ rfl; (with_reducible repeat (first | refine blk_drewN ?_ _ | refine blk_drew ?_ | refine blk_alloc ?_ _)); refine blk_put (cs := #[.int .u8 ((rd_T30 l0 x15_2).f0), .int .u64 ((rd_T30 l0 x15_2).f1), .string (⟨#[]⟩ : ByteArray), .slice none 0 0]) ?_ 2 _ rfl; (with_reducible repeat (first | refine blk_drewN ?_ _ | refine blk_drew ?_ | refine blk_alloc ?_ _)); refine blk_put (cs := #[.int .u8 ((rd_T30 l0 x15_2).f0), .int .u64 0, .string (⟨#[]⟩ : ByteArray), .slice none 0 0]) ?_ 1 _ rfl; (with_reducible repeat (first | refine blk_drewN ?_ _ | refine blk_drew ?_ | refine blk_alloc ?_ _)); refine blk_put (cs := #[.int .u8 0, .int .u64 0, .string (⟨#[]⟩ : ByteArray), .slice none 0 0]) ?_ 0 _ rfl; (with_reducible repeat (first | refine blk_drewN ?_ _ | refine blk_drew ?_ | refine blk_alloc ?_ _)); exact BK144.out) hb); have n1_ := Aside0.mk (below_step (by repeat (first | (with_reducible first | exact HB.out | apply below_alloc | apply pw_below_drewN | apply below_drew1 | refine below_set ?_ GE144.out) | exact HB.out)) hb); clear BK144; clear HB; have BK144 := n0_; have HB := n1_; clear n0_ n1_; (try clear hb); (try clear hb2); (try clear hk); (try clear hi); have hcz22_0 : w21.cell? ⟨gb144, 0, none⟩ = some (.int .u8 ((rd_T30 l0 x15_2).f0)) := (blk_cell BK144.out 0).trans rfl; have hcz22_1 : w21.cell? ⟨gb144, 1, none⟩ = some (.int .u64 ((rd_T30 l0 x15_2).f1)) := (blk_cell BK144.out 1).trans rfl; have hcz22_2 : w21.cell? ⟨gb144, 2, none⟩ = some (.string ((rd_T30 l0 x15_2).f2)) := (blk_cell BK144.out 2).trans rfl; have hcz22_3 : w21.cell? ⟨gb144, 3, none⟩ = some (.slice A143_3 ((rd_T30 l0 x15_2).f3).length c143_3) := (blk_cell BK144.out 3).trans rfl; have hfz22_0 := blk_frozen BK144.out 0; have hfz22_1 := blk_frozen BK144.out 1; have hfz22_2 := blk_frozen BK144.out 2; have hfz22_3 := blk_frozen BK144.out 3) | (go_at_call 8; (with_reducible refine (laws_sgKeys.calls k2 ((rd_T30 l0 x15_2).f0) ((rd_T30 l0 x15_2).f1) ((rd_T30 l0 x15_2).f2) _ _ ((rd_T30 l0 x15_2).f3) false _ ?side1 ?side2 A12.out).mono ?_); (case side1 => repeat (first | exact (Kd.C_below HR143_3.out HB.out) | (with_reducible refine Kd.C_alloc ?_ _) | (with_reducible refine Kd.C_drewN ?_ _) | (with_reducible refine Kd.C_drew ?_))); (case side2 => exact HC143_3.out); rintro e w23 ⟨rfl, hb⟩; have n0_ := Aside0.mk (blk_below (g := gb144) (o := .cells #[.int .u8 ((rd_T30 l0 x15_2).f0), .int .u64 ((rd_T30 l0 x15_2).f1), .string ((rd_T30 l0 x15_2).f2), .slice A143_3 ((rd_T30 l0 x15_2).f3).length c143_3] 30 (0, 0)) (by (with_reducible repeat (first | refine blk_drewN ?_ _ | refine blk_drew ?_ | refine blk_alloc ?_ _)); exact BK144.out) hb); have n1_ := Aside0.mk (below_step (by repeat (first | (with_reducible first | exact HB.out | apply below_alloc | apply pw_below_drewN | apply below_drew1 | refine below_set ?_ GE144.out) | exact HB.out)) hb); clear BK144; clear HB; have BK144 := n0_; have HB := n1_; clear n0_ n1_; (try clear hb); (try clear hb2); (try clear hk); (try clear hi)))
           go_ret
           exact ⟨by rfl, by repeat (first | (with_reducible first | exact HB.out | apply below_alloc | apply pw_below_drewN | apply below_drew1 | refine below_set ?_ GE144.out) | exact HB.out)⟩
         ·replace c11 := Bool.eq_false_iff.mpr c11
          subst c11
          have H1 : (some false) = some r := by rw [if_neg (show ¬ (false = true) by decide)] at H; exact H
          clear H
          have H := H1
          clear H1
          obtain rfl := Option.some.inj H
          have p143 : 0 ≤ (x15_2 : Int) := of_decide_eq_true (by first | (with_reducible assumption) | assumption)
          have q143 : x15_2 < (l0.length : Int) := of_decide_eq_true (by first | (with_reducible assumption) | assumption)
          obtain ⟨ad143, A143_3, c143_3, e143, hx143_0, hx143_1, hx143_2, hx143_3, hl143_3, hi143_3⟩ := at_T30 HR0.out x15_2 p143 q143
          cases e143
          replace hx143_0 := (HB.out.cell (World.block_lt_of_cell? w _ hx143_0)).trans hx143_0
          replace hx143_1 := (HB.out.cell (World.block_lt_of_cell? w _ hx143_1)).trans hx143_1
          replace hx143_2 := (HB.out.cell (World.block_lt_of_cell? w _ hx143_2)).trans hx143_2
          replace hx143_3 := (HB.out.cell (World.block_lt_of_cell? w _ hx143_3)).trans hx143_3
          have HR143_3 := Aside0.mk hi143_3
          have HC143_3 := Aside0.mk hl143_3
          clear hi143_3 hl143_3
          replace p143 := eq_true p143
          replace q143 := eq_true q143
          go_wp2_with (first | ((with_reducible refine gate_dst (N := 4) rfl ?_); refine box_event ?hg (N := 4) ?hd (cs := #[.int .u8 0, .int .u64 0, .string (⟨#[]⟩ : ByteArray), .slice none 0 0]) (t := 30) ?hr ?_; (case hd => rfl); (case hg => rfl); (case hr => first | (go_simp; done) | (go_simp; rfl)); intro gb144 hg w24 hbox hb; have n0_ := Aside0.mk (below_step (by repeat (first | (with_reducible first | exact HB.out | apply below_alloc | apply pw_below_drewN | apply below_drew1) | exact HB.out)) hb); have n1_ := Aside0.mk (hbox); have n2_ := Aside0.mk ((by rw [hg]; exact (below_size (by repeat (first | (with_reducible first | exact HB.out | apply below_alloc | apply pw_below_drewN | apply below_drew1) | exact HB.out))) : w.heap.size ≤ gb144)); have n3_ := Aside0.mk ((by rw [hg]; exact (below_size (by repeat (first | (with_reducible first | exact HB.out | apply below_alloc | apply pw_below_drewN | apply below_drew1) | exact HB.out))) : w.heap.size ≤ gb144)); clear HB; have HB := n0_; have BK144 := n1_; have GW144 := n2_; have GE144 := n3_; clear n0_ n1_ n2_ n3_; clear hb hbox hg; have hcz25_0 : w24.cell? ⟨gb144, 0, none⟩ = some (.int .u8 0) := (blk_cell BK144.out 0).trans rfl; have hcz25_1 : w24.cell? ⟨gb144, 1, none⟩ = some (.int .u64 0) := (blk_cell BK144.out 1).trans rfl; have hcz25_2 : w24.cell? ⟨gb144, 2, none⟩ = some (.string (⟨#[]⟩ : ByteArray)) := (blk_cell BK144.out 2).trans rfl; have hcz25_3 : w24.cell? ⟨gb144, 3, none⟩ = some (.slice none 0 0) := (blk_cell BK144.out 3).trans rfl; have hfz25_0 := blk_frozen BK144.out 0; have hfz25_1 := blk_frozen BK144.out 1; have hfz25_2 := blk_frozen BK144.out 2; have hfz25_3 := blk_frozen BK144.out 3) | ((with_reducible refine gate_callee (f := 7) rfl ?_); refine goesL_ (some 20) rfl rfl Tryd.func7 (by kernel_rfl) rfl #[.agg #[.int .u8 ((rd_T30 l0 x15_2).f0), .int .u64 ((rd_T30 l0 x15_2).f1), .string ((rd_T30 l0 x15_2).f2), .slice A143_3 ((rd_T30 l0 x15_2).f3).length c143_3]] rfl (by (try simp only [List.map_toArray, List.map_cons, List.map_nil]); first | done | rfl | (simp only [List.length_drop, List.length_take]; rfl)) ?_; (with_reducible refine (spec_Tidy.calls k2 ((rd_T30 l0 x15_2).f0) ((rd_T30 l0 x15_2).f1) ((rd_T30 l0 x15_2).f2) _ _ ((rd_T30 l0 x15_2).f3) false _ (HT.out.below (by repeat (first | (with_reducible first | exact HB.out | apply below_alloc | apply pw_below_drewN | apply below_drew1 | refine below_set ?_ GE144.out) | exact HB.out))) ?side1 ?side2 A10.out).mono ?_); (case side1 => exact Kd.C_below HR143_3.out (by repeat (first | (with_reducible first | exact HB.out | apply below_alloc | apply pw_below_drewN | apply below_drew1 | refine below_set ?_ GE144.out) | exact HB.out))); (case side2 => exact HC143_3.out); rintro e w26 ⟨rfl, hb⟩; refine ⟨_, rfl, ?_⟩; have n0_ := Aside0.mk (blk_below (g := gb144) (o := .cells #[.int .u8 ((rd_T30 l0 x15_2).f0), .int .u64 ((rd_T30 l0 x15_2).f1), .string ((rd_T30 l0 x15_2).f2), .slice A143_3 ((rd_T30 l0 x15_2).f3).length c143_3] 30 (0, 0)) (by (with_reducible repeat (first | refine blk_drewN ?_ _ | refine blk_drew ?_ | refine blk_alloc ?_ _)); refine blk_put (cs := #[.int .u8 ((rd_T30 l0 x15_2).f0), .int .u64 ((rd_T30 l0 x15_2).f1), .string ((rd_T30 l0 x15_2).f2), .slice none 0 0]) ?_ 3 _ rfl; (with_reducible repeat (first | refine blk_drewN ?_ _ | refine blk_drew ?_ | refine blk_alloc ?_ _)); refine blk_put (cs := #[.int .u8 ((rd_T30 l0 x15_2).f0), .int .u64 ((rd_T30 l0 x15_2).f1), .string (⟨#[]⟩ : ByteArray), .slice none 0 0]) ?_ 2 _ rfl; (with_reducible repeat (first | refine blk_drewN ?_ _ | refine blk_drew ?_ | refine blk_alloc ?_ _)); refine blk_put (cs := #[.int .u8 ((rd_T30 l0 x15_2).f0), .int .u64 0, .string (⟨#[]⟩ : ByteArray), .slice none 0 0]) ?_ 1 _ rfl; (with_reducible repeat (first | refine blk_drewN ?_ _ | refine blk_drew ?_ | refine blk_alloc ?_ _)); refine blk_put (cs := #[.int .u8 0, .int .u64 0, .string (⟨#[]⟩ : ByteArray), .slice none 0 0]) ?_ 0 _ rfl; (with_reducible repeat (first | refine blk_drewN ?_ _ | refine blk_drew ?_ | refine blk_alloc ?_ _)); exact BK144.out) hb); have n1_ := Aside0.mk (below_step (by repeat (first | (with_reducible first | exact HB.out | apply below_alloc | apply pw_below_drewN | apply below_drew1 | refine below_set ?_ GE144.out) | exact HB.out)) hb); clear BK144; clear HB; have BK144 := n0_; have HB := n1_; clear n0_ n1_; (try clear hb); (try clear hb2); (try clear hk); (try clear hi)))
          go_ret
          exact ⟨by rfl, by repeat (first | (with_reducible first | exact HB.out | apply below_alloc | apply pw_below_drewN | apply below_drew1 | refine below_set ?_ GE144.out) | exact HB.out)⟩
        ·rw [if_neg c9] at H
         exact absurd H (by simp)
       ·rw [if_neg c8] at H
        exact absurd H (by simp)
      ·rw [if_neg c7] at H
       have c7b0 : decide (x15_2 < (l0.length : Int)) = false := decide_eq_false c7
       clear c7
       replace H := Option.bind_eq_some_iff.mp H
       obtain ⟨t142, A270, H⟩ := H
       replace H : (some t142) = some r := H
       have A27 := Aside0.mk A270
       clear A270
       obtain rfl := Option.some.inj H
       go_wp2_with (first | ((with_reducible refine gate_callee (f := 9) rfl ?_); refine goesL_ (some 29) rfl rfl Tryd.func9 (by kernel_rfl) rfl #[.slice A0 l0.length c0] rfl (by (try simp only [List.map_toArray, List.map_cons, List.map_nil]); first | done | rfl | (simp only [List.length_drop, List.length_take]; rfl)) ?_; (with_reducible refine (spec_TidyAll.calls k2 _ _ l0 t142 _ (HT.out.below (by repeat (first | (with_reducible first | exact HB.out | apply below_alloc | apply pw_below_drewN | apply below_drew1) | exact HB.out))) ?side1 ?side2 A27.out).mono ?_); (case side1 => repeat (first | exact (Kd.C_below HR0.out HB.out) | (with_reducible refine Kd.C_alloc ?_ _) | (with_reducible refine Kd.C_drewN ?_ _) | (with_reducible refine Kd.C_drew ?_))); (case side2 => exact HC0.out); rintro e w28 ⟨rfl, hb⟩; refine ⟨_, rfl, ?_⟩; have n0_ := Aside0.mk (below_step (by repeat (first | (with_reducible first | exact HB.out | apply below_alloc | apply pw_below_drewN | apply below_drew1) | exact HB.out)) hb); clear HB; have HB := n0_; clear n0_; (try clear hb); (try clear hb2); (try clear hk); (try clear hi)))
       go_ret
       exact ⟨by rfl, by repeat (first | (with_reducible first | exact HB.out | apply below_alloc | apply pw_below_drewN | apply below_drew1) | exact HB.out)⟩

end Go.Proofs.YtoaehanfknjngaaDoor.Q

-- Written by a program of this session out of the translation; Lean checks it.
namespace Go.Proofs.YtoaehanfknjngaaDoor.Q
open Go.RowKit Go.Proofs.YtoaehanfknjngaaDoor.L Go.Proofs.YtoaehanfknjngaaDoor.Gd Go.Proofs.YtoaehanfknjngaaDoor.Sb Go.Proofs.YtoaehanfknjngaaDoor.Vs Go.Proofs.YtoaehanfknjngaaDoorW.PrintWords Go.Proofs.YtoaehanfknjngaaDoorW.PrintLast Go.Proofs.YtoaehanfknjngaaDoorW.PrintMore
attribute [local go_sem] max2_int min2_int max_two min_two max_three min_three max_four min_four   -- for this text's walks alone
set_option linter.unusedVariables false
set_option linter.unusedSimpArgs false

noncomputable def laws_FnSgOfJoin.f (k : Nat) (l0 : List (S30)) (a1 : Int) : Option (Bool) := if (l0.length : Int) > 2147483647 then (some true) else ((laws_sgSmall.f k l0).bind fun t147 => (if t147 = true then (if (wrap64 ((l0.length : Int) + 1)) = 0 then (none) else (if 0 ≤ (Int.tmod (wrap64 (a1)) (wrap64 ((l0.length : Int) + 1))) then (if (Int.tmod (wrap64 (a1)) (wrap64 ((l0.length : Int) + 1))) ≤ (l0.length : Int) then ((impl_SgOf.f k (l0.take ((Int.tmod (wrap64 (a1)) (wrap64 ((l0.length : Int) + 1))) : Int).toNat)).bind fun bt152 => ((impl_SgOf.f k (l0.drop ((Int.tmod (wrap64 (a1)) (wrap64 ((l0.length : Int) + 1))) : Int).toNat)).bind fun bt158 => ((impl_SgOf.f k l0).bind fun bt160 => (if bt152.2 = true then (if bt158.2 = true then (if bt160.2 = true then (if bt152.1.size + bt158.1.size ≤ 9223372036854775807 then (some (bt160.1.toList == (bt152.1 ++ bt158.1).toList)) else (none)) else (some false)) else (some false)) else (some false))))) else (none)) else (none))) else (some true)))
theorem laws_FnSgOfJoin.mono : ∀ a0 a1 k, LeO (laws_FnSgOfJoin.f k a0 a1) (laws_FnSgOfJoin.f (k + 1) a0 a1) := by
 intro a0 a1 k
 unfold laws_FnSgOfJoin.f
 repeat' first
   | (with_reducible exact impl_SgOf.mono _ _)
   | (with_reducible exact laws_sgSmall.mono _ _)
   | (with_reducible exact LeO.refl _)
   | (with_reducible exact LeO.none _)
   | (with_reducible refine LeO.ite ?_ ?_)
   | (with_reducible refine LeO.bind ?_ (fun _ => ?_))
   | exact impl_SgOf.mono _ _
   | exact laws_sgSmall.mono _ _
   | exact LeO.none _
   | refine LeO.ite ?_ ?_
   | refine LeO.bind ?_ (fun _ => ?_)
set_option maxHeartbeats 8000000 in
set_option maxRecDepth 100000 in
theorem laws_FnSgOfJoin.calls (k : Nat) (A0 : Option Addr) (c0 : Nat) (l0 : List (S30)) (a1 : Int) (r : Bool) (w : World) (HT0 : Tabs w) (hr0 : Kd.C k30 w A0 l0.length l0) (hc0 : l0.length ≤ c0) (h : laws_FnSgOfJoin.f k l0 a1 = some r) :
  Calls Tryd.prog 3 #[.slice A0 l0.length c0, .int .u8 a1] w fun e w' => e = .returned (.bool r) ∧ Below w.heap.size w w' := by
 have HT := Aside0.mk HT0
 clear HT0
 have HR0 := Aside0.mk hr0
 have HC0 := Aside0.mk hc0
 clear hr0 hc0
 have HB := Aside0.mk (Below.refl w.heap.size w)
 have H : (if (l0.length : Int) > 2147483647 then (some true) else ((laws_sgSmall.f k l0).bind fun t147 => (if t147 = true then (if (wrap64 ((l0.length : Int) + 1)) = 0 then (none) else (if 0 ≤ (Int.tmod (wrap64 (a1)) (wrap64 ((l0.length : Int) + 1))) then (if (Int.tmod (wrap64 (a1)) (wrap64 ((l0.length : Int) + 1))) ≤ (l0.length : Int) then ((impl_SgOf.f k (l0.take ((Int.tmod (wrap64 (a1)) (wrap64 ((l0.length : Int) + 1))) : Int).toNat)).bind fun bt152 => ((impl_SgOf.f k (l0.drop ((Int.tmod (wrap64 (a1)) (wrap64 ((l0.length : Int) + 1))) : Int).toNat)).bind fun bt158 => ((impl_SgOf.f k l0).bind fun bt160 => (if bt152.2 = true then (if bt158.2 = true then (if bt160.2 = true then (if bt152.1.size + bt158.1.size ≤ 9223372036854775807 then (some (bt160.1.toList == (bt152.1 ++ bt158.1).toList)) else (none)) else (some false)) else (some false)) else (some false))))) else (none)) else (none))) else (some true)))) = some r := h
 clear h
 by_cases c3 : (l0.length : Int) > 2147483647
 ·rw [if_pos c3] at H
  have c3b0 : decide (2147483647 < (l0.length : Int)) = true := decide_eq_true c3
  have c3b1 : decide (2147483647 < l0.length) = true := decide_eq_true (by omega)
  clear c3
  obtain rfl := Option.some.inj H
  go_enter Tryd.func3, Tryd.ntmps3
  go_wp2
  go_ret
  exact ⟨by rfl, by repeat (first | (with_reducible first | exact HB.out | apply below_alloc | apply pw_below_drewN | apply below_drew1) | exact HB.out)⟩
 ·rw [if_neg c3] at H
  have c3b0 : decide (2147483647 < (l0.length : Int)) = false := decide_eq_false c3
  have c3b1 : decide (2147483647 < l0.length) = false := decide_eq_false (by omega)
  clear c3
  replace H := Option.bind_eq_some_iff.mp H
  obtain ⟨t147, A40, H⟩ := H
  replace H : (if t147 = true then (if (wrap64 ((l0.length : Int) + 1)) = 0 then (none) else (if 0 ≤ (Int.tmod (wrap64 (a1)) (wrap64 ((l0.length : Int) + 1))) then (if (Int.tmod (wrap64 (a1)) (wrap64 ((l0.length : Int) + 1))) ≤ (l0.length : Int) then ((impl_SgOf.f k (l0.take ((Int.tmod (wrap64 (a1)) (wrap64 ((l0.length : Int) + 1))) : Int).toNat)).bind fun bt152 => ((impl_SgOf.f k (l0.drop ((Int.tmod (wrap64 (a1)) (wrap64 ((l0.length : Int) + 1))) : Int).toNat)).bind fun bt158 => ((impl_SgOf.f k l0).bind fun bt160 => (if bt152.2 = true then (if bt158.2 = true then (if bt160.2 = true then (if bt152.1.size + bt158.1.size ≤ 9223372036854775807 then (some (bt160.1.toList == (bt152.1 ++ bt158.1).toList)) else (none)) else (some false)) else (some false)) else (some false))))) else (none)) else (none))) else (some true)) = some r := H
  have A4 := Aside0.mk A40
  clear A40
  by_cases c5 : t147 = true
  ·subst c5
   have H1 : (if (wrap64 ((l0.length : Int) + 1)) = 0 then (none) else (if 0 ≤ (Int.tmod (wrap64 (a1)) (wrap64 ((l0.length : Int) + 1))) then (if (Int.tmod (wrap64 (a1)) (wrap64 ((l0.length : Int) + 1))) ≤ (l0.length : Int) then ((impl_SgOf.f k (l0.take ((Int.tmod (wrap64 (a1)) (wrap64 ((l0.length : Int) + 1))) : Int).toNat)).bind fun bt152 => ((impl_SgOf.f k (l0.drop ((Int.tmod (wrap64 (a1)) (wrap64 ((l0.length : Int) + 1))) : Int).toNat)).bind fun bt158 => ((impl_SgOf.f k l0).bind fun bt160 => (if bt152.2 = true then (if bt158.2 = true then (if bt160.2 = true then (if bt152.1.size + bt158.1.size ≤ 9223372036854775807 then (some (bt160.1.toList == (bt152.1 ++ bt158.1).toList)) else (none)) else (some false)) else (some false)) else (some false))))) else (none)) else (none))) = some r := by rw [if_pos rfl] at H; exact H
   clear H
   have H := H1
   clear H1
   by_cases c6 : (wrap64 ((l0.length : Int) + 1)) = 0
   ·rw [if_pos c6] at H
    exact absurd H (by simp)
   ·rw [if_neg c6] at H
    have c6b0 : ((wrap64 ((l0.length : Int) + 1)) == 0) = false := beq_eq_false_iff_ne.mpr c6
    have c6b1 : ((wrap64 ((l0.length : Int) + 1)) != 0) = true := bne_iff_ne.mpr c6
    obtain ⟨ji7, hji7⟩ : ∃ j_ : Int, (Int.tmod (wrap64 (a1)) (wrap64 ((l0.length : Int) + 1))) = j_ := ⟨_, rfl⟩
    replace H : (if 0 ≤ (ji7) then (if (ji7) ≤ (l0.length : Int) then ((impl_SgOf.f k (l0.take ((ji7) : Int).toNat)).bind fun bt152 => ((impl_SgOf.f k (l0.drop ((ji7) : Int).toNat)).bind fun bt158 => ((impl_SgOf.f k l0).bind fun bt160 => (if bt152.2 = true then (if bt158.2 = true then (if bt160.2 = true then (if bt152.1.size + bt158.1.size ≤ 9223372036854775807 then (some (bt160.1.toList == (bt152.1 ++ bt158.1).toList)) else (none)) else (some false)) else (some false)) else (some false))))) else (none)) else (none)) = some r := by first | (rw [hji7] at H; exact H) | (simp only [hji7] at H ⊢; exact H)
    (try rw [hji7] at A4)
    by_cases c8 : 0 ≤ (ji7)
    ·rw [if_pos c8] at H
     have c8b0 := eq_true c8
     have c8b1 : decide (0 ≤ (ji7)) = true := decide_eq_true c8
     clear c8
     by_cases c9 : (ji7) ≤ (l0.length : Int)
     ·rw [if_pos c9] at H
      have c9b0 := eq_true c9
      have c9b1 : decide ((ji7) ≤ (l0.length : Int)) = true := decide_eq_true c9
      clear c9
      obtain ⟨y148, hy148⟩ : ∃ y_ : List (S30), y_ = (l0.take ((ji7) : Int).toNat) := ⟨_, rfl⟩
      replace H : ((impl_SgOf.f k y148).bind fun bt152 => ((impl_SgOf.f k (l0.drop ((ji7) : Int).toNat)).bind fun bt158 => ((impl_SgOf.f k l0).bind fun bt160 => (if bt152.2 = true then (if bt158.2 = true then (if bt160.2 = true then (if bt152.1.size + bt158.1.size ≤ 9223372036854775807 then (some (bt160.1.toList == (bt152.1 ++ bt158.1).toList)) else (none)) else (some false)) else (some false)) else (some false))))) = some r := by first | (rw [hy148]; with_reducible exact H) | (have H2_ := (Option.bind_some _ _).symm.trans H; rw [hy148]; with_reducible exact H2_) | (have H2_ := (Option.bind_some _ _).symm.trans H; with_reducible exact H2_) | with_reducible exact H | (rw [hy148]; exact H) | exact H
      have Ny148 := Aside0.mk hy148
      clear hy148
      replace H := Option.bind_eq_some_iff.mp H
      obtain ⟨⟨t152, t153⟩, A100, H⟩ := H
      replace H : ((impl_SgOf.f k (l0.drop ((ji7) : Int).toNat)).bind fun bt158 => ((impl_SgOf.f k l0).bind fun bt160 => (if t153 = true then (if bt158.2 = true then (if bt160.2 = true then (if t152.size + bt158.1.size ≤ 9223372036854775807 then (some (bt160.1.toList == (t152 ++ bt158.1).toList)) else (none)) else (some false)) else (some false)) else (some false)))) = some r := H
      have A10 := Aside0.mk A100
      clear A100
      have c11b0 := eq_true (of_decide_eq_true (by first | (with_reducible assumption) | assumption) : 0 ≤ (ji7))
      have c12b0 := eq_true (of_decide_eq_true (by first | (with_reducible assumption) | assumption) : (ji7) ≤ (l0.length : Int))
      obtain ⟨y154, hy154⟩ : ∃ y_ : List (S30), y_ = (l0.drop ((ji7) : Int).toNat) := ⟨_, rfl⟩
      replace H : ((impl_SgOf.f k y154).bind fun bt158 => ((impl_SgOf.f k l0).bind fun bt160 => (if t153 = true then (if bt158.2 = true then (if bt160.2 = true then (if t152.size + bt158.1.size ≤ 9223372036854775807 then (some (bt160.1.toList == (t152 ++ bt158.1).toList)) else (none)) else (some false)) else (some false)) else (some false)))) = some r := by first | (rw [hy154]; with_reducible exact H) | (have H2_ := (Option.bind_some _ _).symm.trans H; rw [hy154]; with_reducible exact H2_) | (have H2_ := (Option.bind_some _ _).symm.trans H; with_reducible exact H2_) | with_reducible exact H | (rw [hy154]; exact H) | exact H
      have Ny154 := Aside0.mk hy154
      clear hy154
      replace H := Option.bind_eq_some_iff.mp H
      obtain ⟨⟨t158, t159⟩, A130, H⟩ := H
      replace H : ((impl_SgOf.f k l0).bind fun bt160 => (if t153 = true then (if t159 = true then (if bt160.2 = true then (if t152.size + t158.size ≤ 9223372036854775807 then (some (bt160.1.toList == (t152 ++ t158).toList)) else (none)) else (some false)) else (some false)) else (some false))) = some r := H
      have A13 := Aside0.mk A130
      clear A130
      replace H := Option.bind_eq_some_iff.mp H
      obtain ⟨⟨t160, t161⟩, A140, H⟩ := H
      replace H : (if t153 = true then (if t159 = true then (if t161 = true then (if t152.size + t158.size ≤ 9223372036854775807 then (some (t160.toList == (t152 ++ t158).toList)) else (none)) else (some false)) else (some false)) else (some false)) = some r := H
      have A14 := Aside0.mk A140
      clear A140
      by_cases c15 : t153 = true
      ·subst c15
       have H1 : (if t159 = true then (if t161 = true then (if t152.size + t158.size ≤ 9223372036854775807 then (some (t160.toList == (t152 ++ t158).toList)) else (none)) else (some false)) else (some false)) = some r := by rw [if_pos rfl] at H; exact H
       clear H
       have H := H1
       clear H1
       by_cases c16 : t159 = true
       ·subst c16
        have H1 : (if t161 = true then (if t152.size + t158.size ≤ 9223372036854775807 then (some (t160.toList == (t152 ++ t158).toList)) else (none)) else (some false)) = some r := by rw [if_pos rfl] at H; exact H
        clear H
        have H := H1
        clear H1
        by_cases c17 : t161 = true
        ·subst c17
         have H1 : (if t152.size + t158.size ≤ 9223372036854775807 then (some (t160.toList == (t152 ++ t158).toList)) else (none)) = some r := by rw [if_pos rfl] at H; exact H
         clear H
         have H := H1
         clear H1
         by_cases c18 : t152.size + t158.size ≤ 9223372036854775807
         ·rw [if_pos c18] at H
          have c18b0 := eq_true c18
          have c18b1 : decide (t152.size + t158.size ≤ 9223372036854775807) = true := decide_eq_true c18
          try have c18b2 : (9223372036854775807 < t152.size + t158.size) = False := eq_false (Nat.not_lt.2 c18)
          try (have c18b3 := c18b2; simp only [ByteArray.size_append] at c18b3)
          try (have c18b4 := c18b3; simp only [show ∀ c : UInt8, (ByteArray.mk #[c]).size = 1 from fun _ => rfl] at c18b4)
          obtain rfl := Option.some.inj H
          go_enter Tryd.func3, Tryd.ntmps3
          go_wp2_with (first | ((with_reducible refine gate_callee (f := 4) rfl ?_); refine goesL_ (some 16) rfl rfl Tryd.func4 (by kernel_rfl) rfl #[.slice A0 l0.length c0] rfl (by (try simp only [List.map_toArray, List.map_cons, List.map_nil]); first | done | rfl | (simp only [List.length_drop, List.length_take]; rfl)) ?_; (with_reducible refine (laws_sgSmall.calls k _ _ l0 true _ (HT.out.below (by repeat (first | (with_reducible first | exact HB.out | apply below_alloc | apply pw_below_drewN | apply below_drew1) | exact HB.out))) ?side1 ?side2 A4.out).mono ?_); (case side1 => repeat (first | exact HR0.out | (with_reducible refine Kd.C_alloc ?_ _) | (with_reducible refine Kd.C_drewN ?_ _) | (with_reducible refine Kd.C_drew ?_))); (case side2 => exact HC0.out); rintro e w19 ⟨rfl, hb⟩; refine ⟨_, rfl, ?_⟩; have n0_ := Aside0.mk (below_step (by repeat (first | (with_reducible first | exact HB.out | apply below_alloc | apply pw_below_drewN | apply below_drew1) | exact HB.out)) hb); clear HB; have HB := n0_; clear n0_; (try clear hb); (try clear hb2); (try clear hk); (try clear hi); have q20 : ((ji7) : Int) ≤ ((l0.length : Int) : Int) := of_decide_eq_true (by first | (with_reducible assumption) | assumption); obtain ⟨i020, hi020, _, hsz20, _⟩ := info_parts info30; have hroom20 : l0.length ≤ c0 := HC0.out; have hC20 : Kd.C k30 _ A0 l0.length l0 := HR0.out; have hcut20 := cut_to (P := Tryd.prog) 22 30 .i64 Tryd.underlying22 hi020 A0 l0.length c0 (ji7) (of_decide_eq_true (by first | (with_reducible assumption) | assumption)) q20 hroom20; have hr20 := Kd.C_take (m := ((ji7) : Int).toNat) hC20 (by omega); have hy20 : y148.length = ((ji7) : Int).toNat := (by rw [Ny148.out, List.length_take]; omega); rw [← Ny148.out] at hr20; rw [← hy20] at hcut20; have HR151 := Aside0.mk hr20; have HC151 := Aside0.mk (show y148.length ≤ c0 from by omega); clear hr20 hC20 hroom20 hi020 hsz20; have KY20 := Aside0.mk hy20; clear hy20; replace q20 := eq_true q20) | ((with_reducible refine gate_callee (f := 5) rfl ?_); refine goesL_ (some 28) rfl rfl Tryd.func5 (by kernel_rfl) rfl #[.slice A0 y148.length c0] rfl (by (try simp only [List.map_toArray, List.map_cons, List.map_nil]); first | done | rfl | (simp only [List.length_drop, List.length_take]; rfl)) ?_; (with_reducible refine (impl_SgOf.calls k _ _ y148 t152 true _ ?side1 ?side2 A10.out).mono ?_); (case side1 => repeat (first | exact (Kd.C_below HR151.out HB.out) | (with_reducible refine Kd.C_alloc ?_ _) | (with_reducible refine Kd.C_drewN ?_ _) | (with_reducible refine Kd.C_drew ?_))); (case side2 => exact HC151.out); rintro e w21 ⟨rfl, hb⟩; refine ⟨_, rfl, ?_⟩; have n0_ := Aside0.mk (below_step (by repeat (first | (with_reducible first | exact HB.out | apply below_alloc | apply pw_below_drewN | apply below_drew1) | exact HB.out)) hb); clear HB; have HB := n0_; clear n0_; (try clear hb); (try clear hb2); (try clear hk); (try clear hi); have q22 : ((ji7) : Int) ≤ ((l0.length : Int) : Int) := of_decide_eq_true (by first | (with_reducible assumption) | assumption); obtain ⟨i022, hi022, _, hsz22, _⟩ := info_parts info30; have hroom22 : l0.length ≤ c0 := HC0.out; have hC22 : Kd.C k30 _ A0 l0.length l0 := HR0.out; have q022 : (0 : Int) ≤ ((ji7) : Int) := of_decide_eq_true (by first | (with_reducible assumption) | assumption); have hcut22 := cut_from (P := Tryd.prog) 22 30 .i64 Tryd.underlying22 hi022 4 hsz22 A0 l0.length c0 (ji7) q022 q22; have hr22 := Kd.C_drop (m := ((ji7) : Int).toNat) (c := c0) hC22 (by omega) hroom22; obtain ⟨A22, hA22⟩ : ∃ A1, A1 = (if c0 = ((ji7) : Int).toNat then A0 else (A0 : Option Addr).map (·.add (((ji7) : Int).toNat * 4))) := ⟨_, rfl⟩; obtain ⟨c22, hc22⟩ : ∃ c1, c1 = c0 - ((ji7) : Int).toNat := ⟨_, rfl⟩; have hy22 : y154.length = l0.length - ((ji7) : Int).toNat := (by rw [Ny154.out, List.length_drop] <;> omega); rw [show (l0).drop ((ji7) : Int).toNat = y154 from Ny154.out.symm] at hr22; replace hr22 : Kd.C k30 _ A22 y154.length y154 := (by rw [hA22]; exact hr22); rw [← hy22, ← hA22, ← hc22] at hcut22; have HR157 := Aside0.mk hr22; have HC157 := Aside0.mk (show y154.length ≤ c22 from by rw [hy22, hc22]; exact Nat.sub_le_sub_right hroom22 _); clear hr22 hC22 hroom22 hi022 hsz22 hc22; have KY22 := Aside0.mk hy22; have KA22 := Aside0.mk hA22; clear hy22 hA22; replace q22 := eq_true q22) | ((with_reducible refine gate_callee (f := 5) rfl ?_); refine goesL_ (some 35) rfl rfl Tryd.func5 (by kernel_rfl) rfl #[.slice A22 y154.length c22] rfl (by (try simp only [List.map_toArray, List.map_cons, List.map_nil]); first | done | rfl | (simp only [List.length_drop, List.length_take]; rfl)) ?_; (with_reducible refine (impl_SgOf.calls k _ _ y154 t158 true _ ?side1 ?side2 A13.out).mono ?_); (case side1 => repeat (first | exact (Kd.C_below HR157.out HB.out) | (with_reducible refine Kd.C_alloc ?_ _) | (with_reducible refine Kd.C_drewN ?_ _) | (with_reducible refine Kd.C_drew ?_))); (case side2 => exact HC157.out); rintro e w23 ⟨rfl, hb⟩; refine ⟨_, rfl, ?_⟩; have n0_ := Aside0.mk (below_step (by repeat (first | (with_reducible first | exact HB.out | apply below_alloc | apply pw_below_drewN | apply below_drew1) | exact HB.out)) hb); clear HB; have HB := n0_; clear n0_; (try clear hb); (try clear hb2); (try clear hk); (try clear hi)) | ((with_reducible refine gate_callee (f := 5) rfl ?_); refine goesL_ (some 40) rfl rfl Tryd.func5 (by kernel_rfl) rfl #[.slice A0 l0.length c0] rfl (by (try simp only [List.map_toArray, List.map_cons, List.map_nil]); first | done | rfl | (simp only [List.length_drop, List.length_take]; rfl)) ?_; (with_reducible refine (impl_SgOf.calls k _ _ l0 t160 true _ ?side1 ?side2 A14.out).mono ?_); (case side1 => repeat (first | exact (Kd.C_below HR0.out HB.out) | (with_reducible refine Kd.C_alloc ?_ _) | (with_reducible refine Kd.C_drewN ?_ _) | (with_reducible refine Kd.C_drew ?_))); (case side2 => exact HC0.out); rintro e w24 ⟨rfl, hb⟩; refine ⟨_, rfl, ?_⟩; have n0_ := Aside0.mk (below_step (by repeat (first | (with_reducible first | exact HB.out | apply below_alloc | apply pw_below_drewN | apply below_drew1) | exact HB.out)) hb); clear HB; have HB := n0_; clear n0_; (try clear hb); (try clear hb2); (try clear hk); (try clear hi)))
          go_ret
          exact ⟨by first | rfl | (simp [errW_none, errW_some] <;> rfl) | (simp only [← hji7]; first | rfl | (simp [errW_none, errW_some] <;> rfl)) | (simp [*, errW_none, errW_some] <;> rfl), by repeat (first | (with_reducible first | exact HB.out | apply below_alloc | apply pw_below_drewN | apply below_drew1) | exact HB.out)⟩
         ·rw [if_neg c18] at H
          exact absurd H (by simp)
        ·replace c17 := Bool.eq_false_iff.mpr c17
         subst c17
         have H1 : (some false) = some r := by rw [if_neg (show ¬ (false = true) by decide)] at H; exact H
         clear H
         have H := H1
         clear H1
         obtain rfl := Option.some.inj H
         go_enter Tryd.func3, Tryd.ntmps3
         go_wp2_with (first | ((with_reducible refine gate_callee (f := 4) rfl ?_); refine goesL_ (some 16) rfl rfl Tryd.func4 (by kernel_rfl) rfl #[.slice A0 l0.length c0] rfl (by (try simp only [List.map_toArray, List.map_cons, List.map_nil]); first | done | rfl | (simp only [List.length_drop, List.length_take]; rfl)) ?_; (with_reducible refine (laws_sgSmall.calls k _ _ l0 true _ (HT.out.below (by repeat (first | (with_reducible first | exact HB.out | apply below_alloc | apply pw_below_drewN | apply below_drew1) | exact HB.out))) ?side1 ?side2 A4.out).mono ?_); (case side1 => repeat (first | exact HR0.out | (with_reducible refine Kd.C_alloc ?_ _) | (with_reducible refine Kd.C_drewN ?_ _) | (with_reducible refine Kd.C_drew ?_))); (case side2 => exact HC0.out); rintro e w25 ⟨rfl, hb⟩; refine ⟨_, rfl, ?_⟩; have n0_ := Aside0.mk (below_step (by repeat (first | (with_reducible first | exact HB.out | apply below_alloc | apply pw_below_drewN | apply below_drew1) | exact HB.out)) hb); clear HB; have HB := n0_; clear n0_; (try clear hb); (try clear hb2); (try clear hk); (try clear hi); have q26 : ((ji7) : Int) ≤ ((l0.length : Int) : Int) := of_decide_eq_true (by first | (with_reducible assumption) | assumption); obtain ⟨i026, hi026, _, hsz26, _⟩ := info_parts info30; have hroom26 : l0.length ≤ c0 := HC0.out; have hC26 : Kd.C k30 _ A0 l0.length l0 := HR0.out; have hcut26 := cut_to (P := Tryd.prog) 22 30 .i64 Tryd.underlying22 hi026 A0 l0.length c0 (ji7) (of_decide_eq_true (by first | (with_reducible assumption) | assumption)) q26 hroom26; have hr26 := Kd.C_take (m := ((ji7) : Int).toNat) hC26 (by omega); have hy26 : y148.length = ((ji7) : Int).toNat := (by rw [Ny148.out, List.length_take]; omega); rw [← Ny148.out] at hr26; rw [← hy26] at hcut26; have HR151 := Aside0.mk hr26; have HC151 := Aside0.mk (show y148.length ≤ c0 from by omega); clear hr26 hC26 hroom26 hi026 hsz26; have KY26 := Aside0.mk hy26; clear hy26; replace q26 := eq_true q26) | ((with_reducible refine gate_callee (f := 5) rfl ?_); refine goesL_ (some 28) rfl rfl Tryd.func5 (by kernel_rfl) rfl #[.slice A0 y148.length c0] rfl (by (try simp only [List.map_toArray, List.map_cons, List.map_nil]); first | done | rfl | (simp only [List.length_drop, List.length_take]; rfl)) ?_; (with_reducible refine (impl_SgOf.calls k _ _ y148 t152 true _ ?side1 ?side2 A10.out).mono ?_); (case side1 => repeat (first | exact (Kd.C_below HR151.out HB.out) | (with_reducible refine Kd.C_alloc ?_ _) | (with_reducible refine Kd.C_drewN ?_ _) | (with_reducible refine Kd.C_drew ?_))); (case side2 => exact HC151.out); rintro e w27 ⟨rfl, hb⟩; refine ⟨_, rfl, ?_⟩; have n0_ := Aside0.mk (below_step (by repeat (first | (with_reducible first | exact HB.out | apply below_alloc | apply pw_below_drewN | apply below_drew1) | exact HB.out)) hb); clear HB; have HB := n0_; clear n0_; (try clear hb); (try clear hb2); (try clear hk); (try clear hi); have q28 : ((ji7) : Int) ≤ ((l0.length : Int) : Int) := of_decide_eq_true (by first | (with_reducible assumption) | assumption); obtain ⟨i028, hi028, _, hsz28, _⟩ := info_parts info30; have hroom28 : l0.length ≤ c0 := HC0.out; have hC28 : Kd.C k30 _ A0 l0.length l0 := HR0.out; have q028 : (0 : Int) ≤ ((ji7) : Int) := of_decide_eq_true (by first | (with_reducible assumption) | assumption); have hcut28 := cut_from (P := Tryd.prog) 22 30 .i64 Tryd.underlying22 hi028 4 hsz28 A0 l0.length c0 (ji7) q028 q28; have hr28 := Kd.C_drop (m := ((ji7) : Int).toNat) (c := c0) hC28 (by omega) hroom28; obtain ⟨A28, hA28⟩ : ∃ A1, A1 = (if c0 = ((ji7) : Int).toNat then A0 else (A0 : Option Addr).map (·.add (((ji7) : Int).toNat * 4))) := ⟨_, rfl⟩; obtain ⟨c28, hc28⟩ : ∃ c1, c1 = c0 - ((ji7) : Int).toNat := ⟨_, rfl⟩; have hy28 : y154.length = l0.length - ((ji7) : Int).toNat := (by rw [Ny154.out, List.length_drop] <;> omega); rw [show (l0).drop ((ji7) : Int).toNat = y154 from Ny154.out.symm] at hr28; replace hr28 : Kd.C k30 _ A28 y154.length y154 := (by rw [hA28]; exact hr28); rw [← hy28, ← hA28, ← hc28] at hcut28; have HR157 := Aside0.mk hr28; have HC157 := Aside0.mk (show y154.length ≤ c28 from by rw [hy28, hc28]; exact Nat.sub_le_sub_right hroom28 _); clear hr28 hC28 hroom28 hi028 hsz28 hc28; have KY28 := Aside0.mk hy28; have KA28 := Aside0.mk hA28; clear hy28 hA28; replace q28 := eq_true q28) | ((with_reducible refine gate_callee (f := 5) rfl ?_); refine goesL_ (some 35) rfl rfl Tryd.func5 (by kernel_rfl) rfl #[.slice A28 y154.length c28] rfl (by (try simp only [List.map_toArray, List.map_cons, List.map_nil]); first | done | rfl | (simp only [List.length_drop, List.length_take]; rfl)) ?_; (with_reducible refine (impl_SgOf.calls k _ _ y154 t158 true _ ?side1 ?side2 A13.out).mono ?_); (case side1 => repeat (first | exact (Kd.C_below HR157.out HB.out) | (with_reducible refine Kd.C_alloc ?_ _) | (with_reducible refine Kd.C_drewN ?_ _) | (with_reducible refine Kd.C_drew ?_))); (case side2 => exact HC157.out); rintro e w29 ⟨rfl, hb⟩; refine ⟨_, rfl, ?_⟩; have n0_ := Aside0.mk (below_step (by repeat (first | (with_reducible first | exact HB.out | apply below_alloc | apply pw_below_drewN | apply below_drew1) | exact HB.out)) hb); clear HB; have HB := n0_; clear n0_; (try clear hb); (try clear hb2); (try clear hk); (try clear hi)) | ((with_reducible refine gate_callee (f := 5) rfl ?_); refine goesL_ (some 40) rfl rfl Tryd.func5 (by kernel_rfl) rfl #[.slice A0 l0.length c0] rfl (by (try simp only [List.map_toArray, List.map_cons, List.map_nil]); first | done | rfl | (simp only [List.length_drop, List.length_take]; rfl)) ?_; (with_reducible refine (impl_SgOf.calls k _ _ l0 t160 false _ ?side1 ?side2 A14.out).mono ?_); (case side1 => repeat (first | exact (Kd.C_below HR0.out HB.out) | (with_reducible refine Kd.C_alloc ?_ _) | (with_reducible refine Kd.C_drewN ?_ _) | (with_reducible refine Kd.C_drew ?_))); (case side2 => exact HC0.out); rintro e w30 ⟨rfl, hb⟩; refine ⟨_, rfl, ?_⟩; have n0_ := Aside0.mk (below_step (by repeat (first | (with_reducible first | exact HB.out | apply below_alloc | apply pw_below_drewN | apply below_drew1) | exact HB.out)) hb); clear HB; have HB := n0_; clear n0_; (try clear hb); (try clear hb2); (try clear hk); (try clear hi)))
         go_ret
         exact ⟨by first | rfl | (simp [errW_none, errW_some] <;> rfl) | (simp only [← hji7]; first | rfl | (simp [errW_none, errW_some] <;> rfl)) | (simp [*, errW_none, errW_some] <;> rfl), by repeat (first | (with_reducible first | exact HB.out | apply below_alloc | apply pw_below_drewN | apply below_drew1) | exact HB.out)⟩
       ·replace c16 := Bool.eq_false_iff.mpr c16
        subst c16
        have H1 : (some false) = some r := by rw [if_neg (show ¬ (false = true) by decide)] at H; exact H
        clear H
        have H := H1
        clear H1
        obtain rfl := Option.some.inj H
        go_enter Tryd.func3, Tryd.ntmps3
        go_wp2_with (first | ((with_reducible refine gate_callee (f := 4) rfl ?_); refine goesL_ (some 16) rfl rfl Tryd.func4 (by kernel_rfl) rfl #[.slice A0 l0.length c0] rfl (by (try simp only [List.map_toArray, List.map_cons, List.map_nil]); first | done | rfl | (simp only [List.length_drop, List.length_take]; rfl)) ?_; (with_reducible refine (laws_sgSmall.calls k _ _ l0 true _ (HT.out.below (by repeat (first | (with_reducible first | exact HB.out | apply below_alloc | apply pw_below_drewN | apply below_drew1) | exact HB.out))) ?side1 ?side2 A4.out).mono ?_); (case side1 => repeat (first | exact HR0.out | (with_reducible refine Kd.C_alloc ?_ _) | (with_reducible refine Kd.C_drewN ?_ _) | (with_reducible refine Kd.C_drew ?_))); (case side2 => exact HC0.out); rintro e w31 ⟨rfl, hb⟩; refine ⟨_, rfl, ?_⟩; have n0_ := Aside0.mk (below_step (by repeat (first | (with_reducible first | exact HB.out | apply below_alloc | apply pw_below_drewN | apply below_drew1) | exact HB.out)) hb); clear HB; have HB := n0_; clear n0_; (try clear hb); (try clear hb2); (try clear hk); (try clear hi); have q32 : ((ji7) : Int) ≤ ((l0.length : Int) : Int) := of_decide_eq_true (by first | (with_reducible assumption) | assumption); obtain ⟨i032, hi032, _, hsz32, _⟩ := info_parts info30; have hroom32 : l0.length ≤ c0 := HC0.out; have hC32 : Kd.C k30 _ A0 l0.length l0 := HR0.out; have hcut32 := cut_to (P := Tryd.prog) 22 30 .i64 Tryd.underlying22 hi032 A0 l0.length c0 (ji7) (of_decide_eq_true (by first | (with_reducible assumption) | assumption)) q32 hroom32; have hr32 := Kd.C_take (m := ((ji7) : Int).toNat) hC32 (by omega); have hy32 : y148.length = ((ji7) : Int).toNat := (by rw [Ny148.out, List.length_take]; omega); rw [← Ny148.out] at hr32; rw [← hy32] at hcut32; have HR151 := Aside0.mk hr32; have HC151 := Aside0.mk (show y148.length ≤ c0 from by omega); clear hr32 hC32 hroom32 hi032 hsz32; have KY32 := Aside0.mk hy32; clear hy32; replace q32 := eq_true q32) | ((with_reducible refine gate_callee (f := 5) rfl ?_); refine goesL_ (some 28) rfl rfl Tryd.func5 (by kernel_rfl) rfl #[.slice A0 y148.length c0] rfl (by (try simp only [List.map_toArray, List.map_cons, List.map_nil]); first | done | rfl | (simp only [List.length_drop, List.length_take]; rfl)) ?_; (with_reducible refine (impl_SgOf.calls k _ _ y148 t152 true _ ?side1 ?side2 A10.out).mono ?_); (case side1 => repeat (first | exact (Kd.C_below HR151.out HB.out) | (with_reducible refine Kd.C_alloc ?_ _) | (with_reducible refine Kd.C_drewN ?_ _) | (with_reducible refine Kd.C_drew ?_))); (case side2 => exact HC151.out); rintro e w33 ⟨rfl, hb⟩; refine ⟨_, rfl, ?_⟩; have n0_ := Aside0.mk (below_step (by repeat (first | (with_reducible first | exact HB.out | apply below_alloc | apply pw_below_drewN | apply below_drew1) | exact HB.out)) hb); clear HB; have HB := n0_; clear n0_; (try clear hb); (try clear hb2); (try clear hk); (try clear hi); have q34 : ((ji7) : Int) ≤ ((l0.length : Int) : Int) := of_decide_eq_true (by first | (with_reducible assumption) | assumption); obtain ⟨i034, hi034, _, hsz34, _⟩ := info_parts info30; have hroom34 : l0.length ≤ c0 := HC0.out; have hC34 : Kd.C k30 _ A0 l0.length l0 := HR0.out; have q034 : (0 : Int) ≤ ((ji7) : Int) := of_decide_eq_true (by first | (with_reducible assumption) | assumption); have hcut34 := cut_from (P := Tryd.prog) 22 30 .i64 Tryd.underlying22 hi034 4 hsz34 A0 l0.length c0 (ji7) q034 q34; have hr34 := Kd.C_drop (m := ((ji7) : Int).toNat) (c := c0) hC34 (by omega) hroom34; obtain ⟨A34, hA34⟩ : ∃ A1, A1 = (if c0 = ((ji7) : Int).toNat then A0 else (A0 : Option Addr).map (·.add (((ji7) : Int).toNat * 4))) := ⟨_, rfl⟩; obtain ⟨c34, hc34⟩ : ∃ c1, c1 = c0 - ((ji7) : Int).toNat := ⟨_, rfl⟩; have hy34 : y154.length = l0.length - ((ji7) : Int).toNat := (by rw [Ny154.out, List.length_drop] <;> omega); rw [show (l0).drop ((ji7) : Int).toNat = y154 from Ny154.out.symm] at hr34; replace hr34 : Kd.C k30 _ A34 y154.length y154 := (by rw [hA34]; exact hr34); rw [← hy34, ← hA34, ← hc34] at hcut34; have HR157 := Aside0.mk hr34; have HC157 := Aside0.mk (show y154.length ≤ c34 from by rw [hy34, hc34]; exact Nat.sub_le_sub_right hroom34 _); clear hr34 hC34 hroom34 hi034 hsz34 hc34; have KY34 := Aside0.mk hy34; have KA34 := Aside0.mk hA34; clear hy34 hA34; replace q34 := eq_true q34) | ((with_reducible refine gate_callee (f := 5) rfl ?_); refine goesL_ (some 35) rfl rfl Tryd.func5 (by kernel_rfl) rfl #[.slice A34 y154.length c34] rfl (by (try simp only [List.map_toArray, List.map_cons, List.map_nil]); first | done | rfl | (simp only [List.length_drop, List.length_take]; rfl)) ?_; (with_reducible refine (impl_SgOf.calls k _ _ y154 t158 false _ ?side1 ?side2 A13.out).mono ?_); (case side1 => repeat (first | exact (Kd.C_below HR157.out HB.out) | (with_reducible refine Kd.C_alloc ?_ _) | (with_reducible refine Kd.C_drewN ?_ _) | (with_reducible refine Kd.C_drew ?_))); (case side2 => exact HC157.out); rintro e w35 ⟨rfl, hb⟩; refine ⟨_, rfl, ?_⟩; have n0_ := Aside0.mk (below_step (by repeat (first | (with_reducible first | exact HB.out | apply below_alloc | apply pw_below_drewN | apply below_drew1) | exact HB.out)) hb); clear HB; have HB := n0_; clear n0_; (try clear hb); (try clear hb2); (try clear hk); (try clear hi)) | ((with_reducible refine gate_callee (f := 5) rfl ?_); refine goesL_ (some 40) rfl rfl Tryd.func5 (by kernel_rfl) rfl #[.slice A0 l0.length c0] rfl (by (try simp only [List.map_toArray, List.map_cons, List.map_nil]); first | done | rfl | (simp only [List.length_drop, List.length_take]; rfl)) ?_; (with_reducible refine (impl_SgOf.calls k _ _ l0 t160 t161 _ ?side1 ?side2 A14.out).mono ?_); (case side1 => repeat (first | exact (Kd.C_below HR0.out HB.out) | (with_reducible refine Kd.C_alloc ?_ _) | (with_reducible refine Kd.C_drewN ?_ _) | (with_reducible refine Kd.C_drew ?_))); (case side2 => exact HC0.out); rintro e w36 ⟨rfl, hb⟩; refine ⟨_, rfl, ?_⟩; have n0_ := Aside0.mk (below_step (by repeat (first | (with_reducible first | exact HB.out | apply below_alloc | apply pw_below_drewN | apply below_drew1) | exact HB.out)) hb); clear HB; have HB := n0_; clear n0_; (try clear hb); (try clear hb2); (try clear hk); (try clear hi)))
        go_ret
        exact ⟨by first | rfl | (simp [errW_none, errW_some] <;> rfl) | (simp only [← hji7]; first | rfl | (simp [errW_none, errW_some] <;> rfl)) | (simp [*, errW_none, errW_some] <;> rfl), by repeat (first | (with_reducible first | exact HB.out | apply below_alloc | apply pw_below_drewN | apply below_drew1) | exact HB.out)⟩
      ·replace c15 := Bool.eq_false_iff.mpr c15
       subst c15
       have H1 : (some false) = some r := by rw [if_neg (show ¬ (false = true) by decide)] at H; exact H
       clear H
       have H := H1
       clear H1
       obtain rfl := Option.some.inj H
       go_enter Tryd.func3, Tryd.ntmps3
       go_wp2_with (first | ((with_reducible refine gate_callee (f := 4) rfl ?_); refine goesL_ (some 16) rfl rfl Tryd.func4 (by kernel_rfl) rfl #[.slice A0 l0.length c0] rfl (by (try simp only [List.map_toArray, List.map_cons, List.map_nil]); first | done | rfl | (simp only [List.length_drop, List.length_take]; rfl)) ?_; (with_reducible refine (laws_sgSmall.calls k _ _ l0 true _ (HT.out.below (by repeat (first | (with_reducible first | exact HB.out | apply below_alloc | apply pw_below_drewN | apply below_drew1) | exact HB.out))) ?side1 ?side2 A4.out).mono ?_); (case side1 => repeat (first | exact HR0.out | (with_reducible refine Kd.C_alloc ?_ _) | (with_reducible refine Kd.C_drewN ?_ _) | (with_reducible refine Kd.C_drew ?_))); (case side2 => exact HC0.out); rintro e w37 ⟨rfl, hb⟩; refine ⟨_, rfl, ?_⟩; have n0_ := Aside0.mk (below_step (by repeat (first | (with_reducible first | exact HB.out | apply below_alloc | apply pw_below_drewN | apply below_drew1) | exact HB.out)) hb); clear HB; have HB := n0_; clear n0_; (try clear hb); (try clear hb2); (try clear hk); (try clear hi); have q38 : ((ji7) : Int) ≤ ((l0.length : Int) : Int) := of_decide_eq_true (by first | (with_reducible assumption) | assumption); obtain ⟨i038, hi038, _, hsz38, _⟩ := info_parts info30; have hroom38 : l0.length ≤ c0 := HC0.out; have hC38 : Kd.C k30 _ A0 l0.length l0 := HR0.out; have hcut38 := cut_to (P := Tryd.prog) 22 30 .i64 Tryd.underlying22 hi038 A0 l0.length c0 (ji7) (of_decide_eq_true (by first | (with_reducible assumption) | assumption)) q38 hroom38; have hr38 := Kd.C_take (m := ((ji7) : Int).toNat) hC38 (by omega); have hy38 : y148.length = ((ji7) : Int).toNat := (by rw [Ny148.out, List.length_take]; omega); rw [← Ny148.out] at hr38; rw [← hy38] at hcut38; have HR151 := Aside0.mk hr38; have HC151 := Aside0.mk (show y148.length ≤ c0 from by omega); clear hr38 hC38 hroom38 hi038 hsz38; have KY38 := Aside0.mk hy38; clear hy38; replace q38 := eq_true q38) | ((with_reducible refine gate_callee (f := 5) rfl ?_); refine goesL_ (some 28) rfl rfl Tryd.func5 (by kernel_rfl) rfl #[.slice A0 y148.length c0] rfl (by (try simp only [List.map_toArray, List.map_cons, List.map_nil]); first | done | rfl | (simp only [List.length_drop, List.length_take]; rfl)) ?_; (with_reducible refine (impl_SgOf.calls k _ _ y148 t152 false _ ?side1 ?side2 A10.out).mono ?_); (case side1 => repeat (first | exact (Kd.C_below HR151.out HB.out) | (with_reducible refine Kd.C_alloc ?_ _) | (with_reducible refine Kd.C_drewN ?_ _) | (with_reducible refine Kd.C_drew ?_))); (case side2 => exact HC151.out); rintro e w39 ⟨rfl, hb⟩; refine ⟨_, rfl, ?_⟩; have n0_ := Aside0.mk (below_step (by repeat (first | (with_reducible first | exact HB.out | apply below_alloc | apply pw_below_drewN | apply below_drew1) | exact HB.out)) hb); clear HB; have HB := n0_; clear n0_; (try clear hb); (try clear hb2); (try clear hk); (try clear hi); have q40 : ((ji7) : Int) ≤ ((l0.length : Int) : Int) := of_decide_eq_true (by first | (with_reducible assumption) | assumption); obtain ⟨i040, hi040, _, hsz40, _⟩ := info_parts info30; have hroom40 : l0.length ≤ c0 := HC0.out; have hC40 : Kd.C k30 _ A0 l0.length l0 := HR0.out; have q040 : (0 : Int) ≤ ((ji7) : Int) := of_decide_eq_true (by first | (with_reducible assumption) | assumption); have hcut40 := cut_from (P := Tryd.prog) 22 30 .i64 Tryd.underlying22 hi040 4 hsz40 A0 l0.length c0 (ji7) q040 q40; have hr40 := Kd.C_drop (m := ((ji7) : Int).toNat) (c := c0) hC40 (by omega) hroom40; obtain ⟨A40, hA40⟩ : ∃ A1, A1 = (if c0 = ((ji7) : Int).toNat then A0 else (A0 : Option Addr).map (·.add (((ji7) : Int).toNat * 4))) := ⟨_, rfl⟩; obtain ⟨c40, hc40⟩ : ∃ c1, c1 = c0 - ((ji7) : Int).toNat := ⟨_, rfl⟩; have hy40 : y154.length = l0.length - ((ji7) : Int).toNat := (by rw [Ny154.out, List.length_drop] <;> omega); rw [show (l0).drop ((ji7) : Int).toNat = y154 from Ny154.out.symm] at hr40; replace hr40 : Kd.C k30 _ A40 y154.length y154 := (by rw [hA40]; exact hr40); rw [← hy40, ← hA40, ← hc40] at hcut40; have HR157 := Aside0.mk hr40; have HC157 := Aside0.mk (show y154.length ≤ c40 from by rw [hy40, hc40]; exact Nat.sub_le_sub_right hroom40 _); clear hr40 hC40 hroom40 hi040 hsz40 hc40; have KY40 := Aside0.mk hy40; have KA40 := Aside0.mk hA40; clear hy40 hA40; replace q40 := eq_true q40) | ((with_reducible refine gate_callee (f := 5) rfl ?_); refine goesL_ (some 35) rfl rfl Tryd.func5 (by kernel_rfl) rfl #[.slice A40 y154.length c40] rfl (by (try simp only [List.map_toArray, List.map_cons, List.map_nil]); first | done | rfl | (simp only [List.length_drop, List.length_take]; rfl)) ?_; (with_reducible refine (impl_SgOf.calls k _ _ y154 t158 t159 _ ?side1 ?side2 A13.out).mono ?_); (case side1 => repeat (first | exact (Kd.C_below HR157.out HB.out) | (with_reducible refine Kd.C_alloc ?_ _) | (with_reducible refine Kd.C_drewN ?_ _) | (with_reducible refine Kd.C_drew ?_))); (case side2 => exact HC157.out); rintro e w41 ⟨rfl, hb⟩; refine ⟨_, rfl, ?_⟩; have n0_ := Aside0.mk (below_step (by repeat (first | (with_reducible first | exact HB.out | apply below_alloc | apply pw_below_drewN | apply below_drew1) | exact HB.out)) hb); clear HB; have HB := n0_; clear n0_; (try clear hb); (try clear hb2); (try clear hk); (try clear hi)) | ((with_reducible refine gate_callee (f := 5) rfl ?_); refine goesL_ (some 40) rfl rfl Tryd.func5 (by kernel_rfl) rfl #[.slice A0 l0.length c0] rfl (by (try simp only [List.map_toArray, List.map_cons, List.map_nil]); first | done | rfl | (simp only [List.length_drop, List.length_take]; rfl)) ?_; (with_reducible refine (impl_SgOf.calls k _ _ l0 t160 t161 _ ?side1 ?side2 A14.out).mono ?_); (case side1 => repeat (first | exact (Kd.C_below HR0.out HB.out) | (with_reducible refine Kd.C_alloc ?_ _) | (with_reducible refine Kd.C_drewN ?_ _) | (with_reducible refine Kd.C_drew ?_))); (case side2 => exact HC0.out); rintro e w42 ⟨rfl, hb⟩; refine ⟨_, rfl, ?_⟩; have n0_ := Aside0.mk (below_step (by repeat (first | (with_reducible first | exact HB.out | apply below_alloc | apply pw_below_drewN | apply below_drew1) | exact HB.out)) hb); clear HB; have HB := n0_; clear n0_; (try clear hb); (try clear hb2); (try clear hk); (try clear hi)))
       go_ret
       exact ⟨by first | rfl | (simp [errW_none, errW_some] <;> rfl) | (simp only [← hji7]; first | rfl | (simp [errW_none, errW_some] <;> rfl)) | (simp [*, errW_none, errW_some] <;> rfl), by repeat (first | (with_reducible first | exact HB.out | apply below_alloc | apply pw_below_drewN | apply below_drew1) | exact HB.out)⟩
     ·rw [if_neg c9] at H
      exact absurd H (by simp)
    ·rw [if_neg c8] at H
     exact absurd H (by simp)
  ·replace c5 := Bool.eq_false_iff.mpr c5
   subst c5
   have H1 : (some true) = some r := by rw [if_neg (show ¬ (false = true) by decide)] at H; exact H
   clear H
   have H := H1
   clear H1
   obtain rfl := Option.some.inj H
   go_enter Tryd.func3, Tryd.ntmps3
   go_wp2_with (first | ((with_reducible refine gate_callee (f := 4) rfl ?_); refine goesL_ (some 16) rfl rfl Tryd.func4 (by kernel_rfl) rfl #[.slice A0 l0.length c0] rfl (by (try simp only [List.map_toArray, List.map_cons, List.map_nil]); first | done | rfl | (simp only [List.length_drop, List.length_take]; rfl)) ?_; (with_reducible refine (laws_sgSmall.calls k _ _ l0 false _ (HT.out.below (by repeat (first | (with_reducible first | exact HB.out | apply below_alloc | apply pw_below_drewN | apply below_drew1) | exact HB.out))) ?side1 ?side2 A4.out).mono ?_); (case side1 => repeat (first | exact HR0.out | (with_reducible refine Kd.C_alloc ?_ _) | (with_reducible refine Kd.C_drewN ?_ _) | (with_reducible refine Kd.C_drew ?_))); (case side2 => exact HC0.out); rintro e w43 ⟨rfl, hb⟩; refine ⟨_, rfl, ?_⟩; have n0_ := Aside0.mk (below_step (by repeat (first | (with_reducible first | exact HB.out | apply below_alloc | apply pw_below_drewN | apply below_drew1) | exact HB.out)) hb); clear HB; have HB := n0_; clear n0_; (try clear hb); (try clear hb2); (try clear hk); (try clear hi)))
   go_ret
   exact ⟨by rfl, by repeat (first | (with_reducible first | exact HB.out | apply below_alloc | apply pw_below_drewN | apply below_drew1) | exact HB.out)⟩

end Go.Proofs.YtoaehanfknjngaaDoor.Q
