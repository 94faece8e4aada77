/-
The options of match rules that the laws of the door seat use: option, WithMatchArg, WithMatchArgPath, with, MtWith. (Printed by D/genwm.py, but with and MtWith.)
-/
import Derived.Test.YtoldgnmgjpjapaaDoorQ4
import Derived.Test.YtoldgnmgjpjapaaDoorShelf
import Derived.Test.YtoldgnmgjpjapaaDoorCom
import Derived.Outline
namespace Go.Proofs.YtoldgnmgjpjapaaDoor.Wm
set_option linter.unusedVariables false
set_option linter.unusedSimpArgs false
open Go.RowKit Go.Proofs.YtoldgnmgjpjapaaDoor.Q Go.Proofs.YtoldgnmgjpjapaaDoorW.PrintWords Go.Proofs.YtoldgnmgjpjapaaDoorW.PrintLast Go.Proofs.YtoldgnmgjpjapaaDoor.Gt
open Go.Proofs.YtoldgnmgjpjapaaDoor.Com

def dg (n : Nat) : ByteArray := ⟨(Lib.decDigits n).toArray⟩
theorem dg_size (n : Nat) (h : n ≤ 63) : (dg n).size ≤ 2 := by
 have := (by kernel_rfl : ((List.range 64).all fun n => decide ((dg n).size ≤ 2)) = true)
 exact of_decide_eq_true (List.all_eq_true.1 this n (List.mem_range.2 (by omega)))
def k6 (n : Nat) : ByteArray := (⟨#[97, 114, 103]⟩ : ByteArray) ++ dg n
def k7 (n : Nat) : ByteArray := ((⟨#[97, 114, 103]⟩ : ByteArray) ++ dg n) ++ (⟨#[112, 97, 116, 104]⟩ : ByteArray)

set_option maxHeartbeats 4000000 in
set_option maxRecDepth 100000 in
theorem arg6 (n : Nat) (hn : n ≤ 63) (v : ByteArray) (w : World) :
  Calls Tryd.prog 34 #[.int .i64 (n : Int), .string v] w fun e w' => e = .returned (.agg #[.string (k6 n), .string v]) ∧ Below w.heap.size w w' := by
 have hu50 := Tryd.underlying50
 have HB := Aside0.mk (Below.refl w.heap.size w)
 have HI := Aside0.mk (fun W => Tryd.strconv_Itoa_small n (by omega) W)
 have hd := dg_size n hn
 unfold k6 dg
 unfold dg at hd
 generalize (⟨(Lib.decDigits n).toArray⟩ : ByteArray) = d at HI hd ⊢
 have c1 : decide ((n : Int) < 0) = false := decide_eq_false (by omega)
 have c2 : decide (63 < (n : Int)) = false := decide_eq_false (by omega)
 have c3 : decide (63 < n) = false := decide_eq_false (by omega)
 have z1 : (9223372036854775807 < 3 + d.size) = False := eq_false (by omega)
 have z2 : (9223372036854775807 < 3 + d.size + 4) = False := eq_false (by omega)
 clear hd hn
 go_enter Tryd.func34, Tryd.ntmps34
 go_wp2_with (first | ((with_reducible refine gate_dst (N := 4) rfl ?_); refine box_event ?hg (N := 4) ?hd (cs := #[.string (⟨#[]⟩ : ByteArray), .string (⟨#[]⟩ : ByteArray)]) (t := 50) ?hr ?_; (case hd => rfl); (case hg => rfl); (case hr => first | (go_simp; done) | (go_simp; rfl)); intro gb hg w3 hbox hb; have n0_ := Aside0.mk (below_step (by repeat (first | (with_reducible first | exact HB.out | apply below_alloc | apply pw_below_drewN | apply below_drew1) | exact HB.out)) hb); have n1_ := Aside0.mk hbox; have n2_ := Aside0.mk ((by rw [hg]; exact (below_size (by repeat (first | (with_reducible first | exact HB.out | apply below_alloc | apply pw_below_drewN | apply below_drew1) | exact HB.out)))) : w.heap.size ≤ gb); clear HB; have HB := n0_; have BK := n1_; have GE := n2_; clear n0_ n1_ n2_; clear hb hbox hg) | (go_at_call 40; refine (HI.out _).mono ?_; rintro e w' ⟨rfl, rfl⟩) | (go_at_call 15; refine (dbus_WithMatchOption.calls ((⟨#[97, 114, 103]⟩ : ByteArray) ++ d) v _ _ _ rfl).mono ?_; rintro e w4 ⟨rfl, hb⟩; have n0_ := Aside0.mk (blk_below (g := gb) (o := .cells #[.string (⟨#[]⟩ : ByteArray), .string (⟨#[]⟩ : ByteArray)] 50 (0, 0)) (by (with_reducible repeat (first | refine blk_drewN ?_ _ | refine blk_drew ?_ | refine blk_alloc ?_ _)); exact BK.out) hb); have n1_ := Aside0.mk (below_step (by repeat (first | (with_reducible first | exact HB.out | apply below_alloc | apply pw_below_drewN | apply below_drew1 | refine below_set ?_ GE.out) | exact HB.out)) hb); clear BK; clear HB; have BK := n0_; have HB := n1_; clear n0_ n1_; (try clear hb); have hcz0 : w4.cell? ⟨gb, 0, none⟩ = some (.string (⟨#[]⟩ : ByteArray)) := (blk_cell BK.out 0).trans rfl; have hcz1 : w4.cell? ⟨gb, 1, none⟩ = some (.string (⟨#[]⟩ : ByteArray)) := (blk_cell BK.out 1).trans rfl; have hfz0 := blk_frozen BK.out 0; have hfz1 := blk_frozen BK.out 1))
 refine bodyPost_ret (results_cell_row rfl _ _ gb 50 #[Value.string ((⟨#[97, 114, 103]⟩ : ByteArray) ++ d), Value.string v] (0, 0) _ rfl (by (with_reducible repeat (first | refine blk_drewN ?_ _ | refine blk_drew ?_ | refine blk_alloc ?_ _)); refine blk_put (cs := #[Value.string ((⟨#[97, 114, 103]⟩ : ByteArray) ++ d), Value.string (⟨#[]⟩ : ByteArray)]) ?_ 1 _ rfl; (with_reducible repeat (first | refine blk_drewN ?_ _ | refine blk_drew ?_ | refine blk_alloc ?_ _)); refine blk_put (cs := #[.string (⟨#[]⟩ : ByteArray), .string (⟨#[]⟩ : ByteArray)]) ?_ 0 _ rfl; (with_reducible repeat (first | refine blk_drewN ?_ _ | refine blk_drew ?_ | refine blk_alloc ?_ _)); exact BK.out) Tryd.underlying50 rfl (by kernel_rfl)) rfl ?_
 exact ⟨rfl, by repeat (first | (with_reducible first | exact HB.out | apply below_alloc | apply pw_below_drewN | apply below_drew1 | refine below_set ?_ GE.out) | exact HB.out)⟩

set_option maxHeartbeats 4000000 in
set_option maxRecDepth 100000 in
theorem arg7 (n : Nat) (hn : n ≤ 63) (v : ByteArray) (w : World) :
  Calls Tryd.prog 35 #[.int .i64 (n : Int), .string v] w fun e w' => e = .returned (.agg #[.string (k7 n), .string v]) ∧ Below w.heap.size w w' := by
 have hu50 := Tryd.underlying50
 have HB := Aside0.mk (Below.refl w.heap.size w)
 have HI := Aside0.mk (fun W => Tryd.strconv_Itoa_small n (by omega) W)
 have hd := dg_size n hn
 unfold k7 dg
 unfold dg at hd
 generalize (⟨(Lib.decDigits n).toArray⟩ : ByteArray) = d at HI hd ⊢
 have c1 : decide ((n : Int) < 0) = false := decide_eq_false (by omega)
 have c2 : decide (63 < (n : Int)) = false := decide_eq_false (by omega)
 have c3 : decide (63 < n) = false := decide_eq_false (by omega)
 have z1 : (9223372036854775807 < 3 + d.size) = False := eq_false (by omega)
 have z2 : (9223372036854775807 < 3 + d.size + 4) = False := eq_false (by omega)
 clear hd hn
 go_enter Tryd.func35, Tryd.ntmps35
 go_wp2_with (first | ((with_reducible refine gate_dst (N := 4) rfl ?_); refine box_event ?hg (N := 4) ?hd (cs := #[.string (⟨#[]⟩ : ByteArray), .string (⟨#[]⟩ : ByteArray)]) (t := 50) ?hr ?_; (case hd => rfl); (case hg => rfl); (case hr => first | (go_simp; done) | (go_simp; rfl)); intro gb hg w3 hbox hb; have n0_ := Aside0.mk (below_step (by repeat (first | (with_reducible first | exact HB.out | apply below_alloc | apply pw_below_drewN | apply below_drew1) | exact HB.out)) hb); have n1_ := Aside0.mk hbox; have n2_ := Aside0.mk ((by rw [hg]; exact (below_size (by repeat (first | (with_reducible first | exact HB.out | apply below_alloc | apply pw_below_drewN | apply below_drew1) | exact HB.out)))) : w.heap.size ≤ gb); clear HB; have HB := n0_; have BK := n1_; have GE := n2_; clear n0_ n1_ n2_; clear hb hbox hg) | (go_at_call 40; refine (HI.out _).mono ?_; rintro e w' ⟨rfl, rfl⟩) | (go_at_call 15; refine (dbus_WithMatchOption.calls (((⟨#[97, 114, 103]⟩ : ByteArray) ++ d) ++ (⟨#[112, 97, 116, 104]⟩ : ByteArray)) v _ _ _ rfl).mono ?_; rintro e w4 ⟨rfl, hb⟩; have n0_ := Aside0.mk (blk_below (g := gb) (o := .cells #[.string (⟨#[]⟩ : ByteArray), .string (⟨#[]⟩ : ByteArray)] 50 (0, 0)) (by (with_reducible repeat (first | refine blk_drewN ?_ _ | refine blk_drew ?_ | refine blk_alloc ?_ _)); exact BK.out) hb); have n1_ := Aside0.mk (below_step (by repeat (first | (with_reducible first | exact HB.out | apply below_alloc | apply pw_below_drewN | apply below_drew1 | refine below_set ?_ GE.out) | exact HB.out)) hb); clear BK; clear HB; have BK := n0_; have HB := n1_; clear n0_ n1_; (try clear hb); have hcz0 : w4.cell? ⟨gb, 0, none⟩ = some (.string (⟨#[]⟩ : ByteArray)) := (blk_cell BK.out 0).trans rfl; have hcz1 : w4.cell? ⟨gb, 1, none⟩ = some (.string (⟨#[]⟩ : ByteArray)) := (blk_cell BK.out 1).trans rfl; have hfz0 := blk_frozen BK.out 0; have hfz1 := blk_frozen BK.out 1))
 refine bodyPost_ret (results_cell_row rfl _ _ gb 50 #[Value.string (((⟨#[97, 114, 103]⟩ : ByteArray) ++ d) ++ (⟨#[112, 97, 116, 104]⟩ : ByteArray)), Value.string v] (0, 0) _ rfl (by (with_reducible repeat (first | refine blk_drewN ?_ _ | refine blk_drew ?_ | refine blk_alloc ?_ _)); refine blk_put (cs := #[Value.string (((⟨#[97, 114, 103]⟩ : ByteArray) ++ d) ++ (⟨#[112, 97, 116, 104]⟩ : ByteArray)), Value.string (⟨#[]⟩ : ByteArray)]) ?_ 1 _ rfl; (with_reducible repeat (first | refine blk_drewN ?_ _ | refine blk_drew ?_ | refine blk_alloc ?_ _)); refine blk_put (cs := #[.string (⟨#[]⟩ : ByteArray), .string (⟨#[]⟩ : ByteArray)]) ?_ 0 _ rfl; (with_reducible repeat (first | refine blk_drewN ?_ _ | refine blk_drew ?_ | refine blk_alloc ?_ _)); exact BK.out) Tryd.underlying50 rfl (by kernel_rfl)) rfl ?_
 exact ⟨rfl, by repeat (first | (with_reducible first | exact HB.out | apply below_alloc | apply pw_below_drewN | apply below_drew1 | refine below_set ?_ GE.out) | exact HB.out)⟩

set_option maxHeartbeats 4000000 in
set_option maxRecDepth 100000 in
theorem opt0 (n : Int) (v : ByteArray) (w : World) :
  Calls Tryd.prog 26 #[.int .i64 0, .int .i64 (n : Int), .string v] w fun e w' => e = .returned (.agg #[.string ((⟨#[115, 101, 110, 100, 101, 114]⟩ : ByteArray)), .string v]) ∧ Below w.heap.size w w' := by
 have hu50 := Tryd.underlying50
 have HB := Aside0.mk (Below.refl w.heap.size w)
 go_enter Tryd.func26, Tryd.ntmps26
 go_wp2_with (first | ((with_reducible refine gate_dst (N := 6) rfl ?_); refine box_event ?hg (N := 6) ?hd (cs := #[.string (⟨#[]⟩ : ByteArray), .string (⟨#[]⟩ : ByteArray)]) (t := 50) ?hr ?_; (case hd => rfl); (case hg => rfl); (case hr => first | (go_simp; done) | (go_simp; rfl)); intro gb hg w3 hbox hb; have n0_ := Aside0.mk (below_step (by repeat (first | (with_reducible first | exact HB.out | apply below_alloc | apply pw_below_drewN | apply below_drew1) | exact HB.out)) hb); have n1_ := Aside0.mk hbox; have n2_ := Aside0.mk ((by rw [hg]; exact (below_size (by repeat (first | (with_reducible first | exact HB.out | apply below_alloc | apply pw_below_drewN | apply below_drew1) | exact HB.out)))) : w.heap.size ≤ gb); clear HB; have HB := n0_; have BK := n1_; have GE := n2_; clear n0_ n1_ n2_; clear hb hbox hg) | (go_at_call 28; refine (dbus_WithMatchSender.calls v _ _ _ rfl).mono ?_; rintro e w4 ⟨rfl, hb⟩; have n0_ := Aside0.mk (blk_below (g := gb) (o := .cells #[.string (⟨#[]⟩ : ByteArray), .string (⟨#[]⟩ : ByteArray)] 50 (0, 0)) (by (with_reducible repeat (first | refine blk_drewN ?_ _ | refine blk_drew ?_ | refine blk_alloc ?_ _)); exact BK.out) hb); have n1_ := Aside0.mk (below_step (by repeat (first | (with_reducible first | exact HB.out | apply below_alloc | apply pw_below_drewN | apply below_drew1 | refine below_set ?_ GE.out) | exact HB.out)) hb); clear BK; clear HB; have BK := n0_; have HB := n1_; clear n0_ n1_; (try clear hb); have hcz0 : w4.cell? ⟨gb, 0, none⟩ = some (.string (⟨#[]⟩ : ByteArray)) := (blk_cell BK.out 0).trans rfl; have hcz1 : w4.cell? ⟨gb, 1, none⟩ = some (.string (⟨#[]⟩ : ByteArray)) := (blk_cell BK.out 1).trans rfl; have hfz0 := blk_frozen BK.out 0; have hfz1 := blk_frozen BK.out 1))
 refine bodyPost_ret (results_cell_row rfl _ _ gb 50 #[Value.string (((⟨#[115, 101, 110, 100, 101, 114]⟩ : ByteArray))), Value.string v] (0, 0) _ rfl (by (with_reducible repeat (first | refine blk_drewN ?_ _ | refine blk_drew ?_ | refine blk_alloc ?_ _)); refine blk_put (cs := #[Value.string (((⟨#[115, 101, 110, 100, 101, 114]⟩ : ByteArray))), Value.string (⟨#[]⟩ : ByteArray)]) ?_ 1 _ rfl; (with_reducible repeat (first | refine blk_drewN ?_ _ | refine blk_drew ?_ | refine blk_alloc ?_ _)); refine blk_put (cs := #[.string (⟨#[]⟩ : ByteArray), .string (⟨#[]⟩ : ByteArray)]) ?_ 0 _ rfl; (with_reducible repeat (first | refine blk_drewN ?_ _ | refine blk_drew ?_ | refine blk_alloc ?_ _)); exact BK.out) Tryd.underlying50 rfl (by kernel_rfl)) rfl ?_
 exact ⟨rfl, by repeat (first | (with_reducible first | exact HB.out | apply below_alloc | apply pw_below_drewN | apply below_drew1 | refine below_set ?_ GE.out) | exact HB.out)⟩

set_option maxHeartbeats 4000000 in
set_option maxRecDepth 100000 in
theorem opt1 (n : Int) (v : ByteArray) (w : World) :
  Calls Tryd.prog 26 #[.int .i64 1, .int .i64 (n : Int), .string v] w fun e w' => e = .returned (.agg #[.string ((⟨#[105, 110, 116, 101, 114, 102, 97, 99, 101]⟩ : ByteArray)), .string v]) ∧ Below w.heap.size w w' := by
 have hu50 := Tryd.underlying50
 have HB := Aside0.mk (Below.refl w.heap.size w)
 go_enter Tryd.func26, Tryd.ntmps26
 go_wp2_with (first | ((with_reducible refine gate_dst (N := 6) rfl ?_); refine box_event ?hg (N := 6) ?hd (cs := #[.string (⟨#[]⟩ : ByteArray), .string (⟨#[]⟩ : ByteArray)]) (t := 50) ?hr ?_; (case hd => rfl); (case hg => rfl); (case hr => first | (go_simp; done) | (go_simp; rfl)); intro gb hg w3 hbox hb; have n0_ := Aside0.mk (below_step (by repeat (first | (with_reducible first | exact HB.out | apply below_alloc | apply pw_below_drewN | apply below_drew1) | exact HB.out)) hb); have n1_ := Aside0.mk hbox; have n2_ := Aside0.mk ((by rw [hg]; exact (below_size (by repeat (first | (with_reducible first | exact HB.out | apply below_alloc | apply pw_below_drewN | apply below_drew1) | exact HB.out)))) : w.heap.size ≤ gb); clear HB; have HB := n0_; have BK := n1_; have GE := n2_; clear n0_ n1_ n2_; clear hb hbox hg) | (go_at_call 29; refine (dbus_WithMatchInterface.calls v _ _ _ rfl).mono ?_; rintro e w4 ⟨rfl, hb⟩; have n0_ := Aside0.mk (blk_below (g := gb) (o := .cells #[.string (⟨#[]⟩ : ByteArray), .string (⟨#[]⟩ : ByteArray)] 50 (0, 0)) (by (with_reducible repeat (first | refine blk_drewN ?_ _ | refine blk_drew ?_ | refine blk_alloc ?_ _)); exact BK.out) hb); have n1_ := Aside0.mk (below_step (by repeat (first | (with_reducible first | exact HB.out | apply below_alloc | apply pw_below_drewN | apply below_drew1 | refine below_set ?_ GE.out) | exact HB.out)) hb); clear BK; clear HB; have BK := n0_; have HB := n1_; clear n0_ n1_; (try clear hb); have hcz0 : w4.cell? ⟨gb, 0, none⟩ = some (.string (⟨#[]⟩ : ByteArray)) := (blk_cell BK.out 0).trans rfl; have hcz1 : w4.cell? ⟨gb, 1, none⟩ = some (.string (⟨#[]⟩ : ByteArray)) := (blk_cell BK.out 1).trans rfl; have hfz0 := blk_frozen BK.out 0; have hfz1 := blk_frozen BK.out 1))
 refine bodyPost_ret (results_cell_row rfl _ _ gb 50 #[Value.string (((⟨#[105, 110, 116, 101, 114, 102, 97, 99, 101]⟩ : ByteArray))), Value.string v] (0, 0) _ rfl (by (with_reducible repeat (first | refine blk_drewN ?_ _ | refine blk_drew ?_ | refine blk_alloc ?_ _)); refine blk_put (cs := #[Value.string (((⟨#[105, 110, 116, 101, 114, 102, 97, 99, 101]⟩ : ByteArray))), Value.string (⟨#[]⟩ : ByteArray)]) ?_ 1 _ rfl; (with_reducible repeat (first | refine blk_drewN ?_ _ | refine blk_drew ?_ | refine blk_alloc ?_ _)); refine blk_put (cs := #[.string (⟨#[]⟩ : ByteArray), .string (⟨#[]⟩ : ByteArray)]) ?_ 0 _ rfl; (with_reducible repeat (first | refine blk_drewN ?_ _ | refine blk_drew ?_ | refine blk_alloc ?_ _)); exact BK.out) Tryd.underlying50 rfl (by kernel_rfl)) rfl ?_
 exact ⟨rfl, by repeat (first | (with_reducible first | exact HB.out | apply below_alloc | apply pw_below_drewN | apply below_drew1 | refine below_set ?_ GE.out) | exact HB.out)⟩

set_option maxHeartbeats 4000000 in
set_option maxRecDepth 100000 in
theorem opt2 (n : Int) (v : ByteArray) (w : World) :
  Calls Tryd.prog 26 #[.int .i64 2, .int .i64 (n : Int), .string v] w fun e w' => e = .returned (.agg #[.string ((⟨#[109, 101, 109, 98, 101, 114]⟩ : ByteArray)), .string v]) ∧ Below w.heap.size w w' := by
 have hu50 := Tryd.underlying50
 have HB := Aside0.mk (Below.refl w.heap.size w)
 go_enter Tryd.func26, Tryd.ntmps26
 go_wp2_with (first | ((with_reducible refine gate_dst (N := 6) rfl ?_); refine box_event ?hg (N := 6) ?hd (cs := #[.string (⟨#[]⟩ : ByteArray), .string (⟨#[]⟩ : ByteArray)]) (t := 50) ?hr ?_; (case hd => rfl); (case hg => rfl); (case hr => first | (go_simp; done) | (go_simp; rfl)); intro gb hg w3 hbox hb; have n0_ := Aside0.mk (below_step (by repeat (first | (with_reducible first | exact HB.out | apply below_alloc | apply pw_below_drewN | apply below_drew1) | exact HB.out)) hb); have n1_ := Aside0.mk hbox; have n2_ := Aside0.mk ((by rw [hg]; exact (below_size (by repeat (first | (with_reducible first | exact HB.out | apply below_alloc | apply pw_below_drewN | apply below_drew1) | exact HB.out)))) : w.heap.size ≤ gb); clear HB; have HB := n0_; have BK := n1_; have GE := n2_; clear n0_ n1_ n2_; clear hb hbox hg) | (go_at_call 30; refine (dbus_WithMatchMember.calls v _ _ _ rfl).mono ?_; rintro e w4 ⟨rfl, hb⟩; have n0_ := Aside0.mk (blk_below (g := gb) (o := .cells #[.string (⟨#[]⟩ : ByteArray), .string (⟨#[]⟩ : ByteArray)] 50 (0, 0)) (by (with_reducible repeat (first | refine blk_drewN ?_ _ | refine blk_drew ?_ | refine blk_alloc ?_ _)); exact BK.out) hb); have n1_ := Aside0.mk (below_step (by repeat (first | (with_reducible first | exact HB.out | apply below_alloc | apply pw_below_drewN | apply below_drew1 | refine below_set ?_ GE.out) | exact HB.out)) hb); clear BK; clear HB; have BK := n0_; have HB := n1_; clear n0_ n1_; (try clear hb); have hcz0 : w4.cell? ⟨gb, 0, none⟩ = some (.string (⟨#[]⟩ : ByteArray)) := (blk_cell BK.out 0).trans rfl; have hcz1 : w4.cell? ⟨gb, 1, none⟩ = some (.string (⟨#[]⟩ : ByteArray)) := (blk_cell BK.out 1).trans rfl; have hfz0 := blk_frozen BK.out 0; have hfz1 := blk_frozen BK.out 1))
 refine bodyPost_ret (results_cell_row rfl _ _ gb 50 #[Value.string (((⟨#[109, 101, 109, 98, 101, 114]⟩ : ByteArray))), Value.string v] (0, 0) _ rfl (by (with_reducible repeat (first | refine blk_drewN ?_ _ | refine blk_drew ?_ | refine blk_alloc ?_ _)); refine blk_put (cs := #[Value.string (((⟨#[109, 101, 109, 98, 101, 114]⟩ : ByteArray))), Value.string (⟨#[]⟩ : ByteArray)]) ?_ 1 _ rfl; (with_reducible repeat (first | refine blk_drewN ?_ _ | refine blk_drew ?_ | refine blk_alloc ?_ _)); refine blk_put (cs := #[.string (⟨#[]⟩ : ByteArray), .string (⟨#[]⟩ : ByteArray)]) ?_ 0 _ rfl; (with_reducible repeat (first | refine blk_drewN ?_ _ | refine blk_drew ?_ | refine blk_alloc ?_ _)); exact BK.out) Tryd.underlying50 rfl (by kernel_rfl)) rfl ?_
 exact ⟨rfl, by repeat (first | (with_reducible first | exact HB.out | apply below_alloc | apply pw_below_drewN | apply below_drew1 | refine below_set ?_ GE.out) | exact HB.out)⟩

set_option maxHeartbeats 4000000 in
set_option maxRecDepth 100000 in
theorem opt3 (n : Int) (v : ByteArray) (w : World) :
  Calls Tryd.prog 26 #[.int .i64 3, .int .i64 (n : Int), .string v] w fun e w' => e = .returned (.agg #[.string ((⟨#[112, 97, 116, 104]⟩ : ByteArray)), .string v]) ∧ Below w.heap.size w w' := by
 have hu50 := Tryd.underlying50
 have HB := Aside0.mk (Below.refl w.heap.size w)
 go_enter Tryd.func26, Tryd.ntmps26
 go_wp2_with (first | ((with_reducible refine gate_dst (N := 6) rfl ?_); refine box_event ?hg (N := 6) ?hd (cs := #[.string (⟨#[]⟩ : ByteArray), .string (⟨#[]⟩ : ByteArray)]) (t := 50) ?hr ?_; (case hd => rfl); (case hg => rfl); (case hr => first | (go_simp; done) | (go_simp; rfl)); intro gb hg w3 hbox hb; have n0_ := Aside0.mk (below_step (by repeat (first | (with_reducible first | exact HB.out | apply below_alloc | apply pw_below_drewN | apply below_drew1) | exact HB.out)) hb); have n1_ := Aside0.mk hbox; have n2_ := Aside0.mk ((by rw [hg]; exact (below_size (by repeat (first | (with_reducible first | exact HB.out | apply below_alloc | apply pw_below_drewN | apply below_drew1) | exact HB.out)))) : w.heap.size ≤ gb); clear HB; have HB := n0_; have BK := n1_; have GE := n2_; clear n0_ n1_ n2_; clear hb hbox hg) | (go_at_call 31; refine (dbus_WithMatchObjectPath.calls v _ _ _ rfl).mono ?_; rintro e w4 ⟨rfl, hb⟩; have n0_ := Aside0.mk (blk_below (g := gb) (o := .cells #[.string (⟨#[]⟩ : ByteArray), .string (⟨#[]⟩ : ByteArray)] 50 (0, 0)) (by (with_reducible repeat (first | refine blk_drewN ?_ _ | refine blk_drew ?_ | refine blk_alloc ?_ _)); exact BK.out) hb); have n1_ := Aside0.mk (below_step (by repeat (first | (with_reducible first | exact HB.out | apply below_alloc | apply pw_below_drewN | apply below_drew1 | refine below_set ?_ GE.out) | exact HB.out)) hb); clear BK; clear HB; have BK := n0_; have HB := n1_; clear n0_ n1_; (try clear hb); have hcz0 : w4.cell? ⟨gb, 0, none⟩ = some (.string (⟨#[]⟩ : ByteArray)) := (blk_cell BK.out 0).trans rfl; have hcz1 : w4.cell? ⟨gb, 1, none⟩ = some (.string (⟨#[]⟩ : ByteArray)) := (blk_cell BK.out 1).trans rfl; have hfz0 := blk_frozen BK.out 0; have hfz1 := blk_frozen BK.out 1))
 refine bodyPost_ret (results_cell_row rfl _ _ gb 50 #[Value.string (((⟨#[112, 97, 116, 104]⟩ : ByteArray))), Value.string v] (0, 0) _ rfl (by (with_reducible repeat (first | refine blk_drewN ?_ _ | refine blk_drew ?_ | refine blk_alloc ?_ _)); refine blk_put (cs := #[Value.string (((⟨#[112, 97, 116, 104]⟩ : ByteArray))), Value.string (⟨#[]⟩ : ByteArray)]) ?_ 1 _ rfl; (with_reducible repeat (first | refine blk_drewN ?_ _ | refine blk_drew ?_ | refine blk_alloc ?_ _)); refine blk_put (cs := #[.string (⟨#[]⟩ : ByteArray), .string (⟨#[]⟩ : ByteArray)]) ?_ 0 _ rfl; (with_reducible repeat (first | refine blk_drewN ?_ _ | refine blk_drew ?_ | refine blk_alloc ?_ _)); exact BK.out) Tryd.underlying50 rfl (by kernel_rfl)) rfl ?_
 exact ⟨rfl, by repeat (first | (with_reducible first | exact HB.out | apply below_alloc | apply pw_below_drewN | apply below_drew1 | refine below_set ?_ GE.out) | exact HB.out)⟩

set_option maxHeartbeats 4000000 in
set_option maxRecDepth 100000 in
theorem opt4 (n : Int) (v : ByteArray) (w : World) :
  Calls Tryd.prog 26 #[.int .i64 4, .int .i64 (n : Int), .string v] w fun e w' => e = .returned (.agg #[.string ((⟨#[112, 97, 116, 104, 95, 110, 97, 109, 101, 115, 112, 97, 99, 101]⟩ : ByteArray)), .string v]) ∧ Below w.heap.size w w' := by
 have hu50 := Tryd.underlying50
 have HB := Aside0.mk (Below.refl w.heap.size w)
 go_enter Tryd.func26, Tryd.ntmps26
 go_wp2_with (first | ((with_reducible refine gate_dst (N := 6) rfl ?_); refine box_event ?hg (N := 6) ?hd (cs := #[.string (⟨#[]⟩ : ByteArray), .string (⟨#[]⟩ : ByteArray)]) (t := 50) ?hr ?_; (case hd => rfl); (case hg => rfl); (case hr => first | (go_simp; done) | (go_simp; rfl)); intro gb hg w3 hbox hb; have n0_ := Aside0.mk (below_step (by repeat (first | (with_reducible first | exact HB.out | apply below_alloc | apply pw_below_drewN | apply below_drew1) | exact HB.out)) hb); have n1_ := Aside0.mk hbox; have n2_ := Aside0.mk ((by rw [hg]; exact (below_size (by repeat (first | (with_reducible first | exact HB.out | apply below_alloc | apply pw_below_drewN | apply below_drew1) | exact HB.out)))) : w.heap.size ≤ gb); clear HB; have HB := n0_; have BK := n1_; have GE := n2_; clear n0_ n1_ n2_; clear hb hbox hg) | (go_at_call 32; refine (dbus_WithMatchPathNamespace.calls v _ _ _ rfl).mono ?_; rintro e w4 ⟨rfl, hb⟩; have n0_ := Aside0.mk (blk_below (g := gb) (o := .cells #[.string (⟨#[]⟩ : ByteArray), .string (⟨#[]⟩ : ByteArray)] 50 (0, 0)) (by (with_reducible repeat (first | refine blk_drewN ?_ _ | refine blk_drew ?_ | refine blk_alloc ?_ _)); exact BK.out) hb); have n1_ := Aside0.mk (below_step (by repeat (first | (with_reducible first | exact HB.out | apply below_alloc | apply pw_below_drewN | apply below_drew1 | refine below_set ?_ GE.out) | exact HB.out)) hb); clear BK; clear HB; have BK := n0_; have HB := n1_; clear n0_ n1_; (try clear hb); have hcz0 : w4.cell? ⟨gb, 0, none⟩ = some (.string (⟨#[]⟩ : ByteArray)) := (blk_cell BK.out 0).trans rfl; have hcz1 : w4.cell? ⟨gb, 1, none⟩ = some (.string (⟨#[]⟩ : ByteArray)) := (blk_cell BK.out 1).trans rfl; have hfz0 := blk_frozen BK.out 0; have hfz1 := blk_frozen BK.out 1))
 refine bodyPost_ret (results_cell_row rfl _ _ gb 50 #[Value.string (((⟨#[112, 97, 116, 104, 95, 110, 97, 109, 101, 115, 112, 97, 99, 101]⟩ : ByteArray))), Value.string v] (0, 0) _ rfl (by (with_reducible repeat (first | refine blk_drewN ?_ _ | refine blk_drew ?_ | refine blk_alloc ?_ _)); refine blk_put (cs := #[Value.string (((⟨#[112, 97, 116, 104, 95, 110, 97, 109, 101, 115, 112, 97, 99, 101]⟩ : ByteArray))), Value.string (⟨#[]⟩ : ByteArray)]) ?_ 1 _ rfl; (with_reducible repeat (first | refine blk_drewN ?_ _ | refine blk_drew ?_ | refine blk_alloc ?_ _)); refine blk_put (cs := #[.string (⟨#[]⟩ : ByteArray), .string (⟨#[]⟩ : ByteArray)]) ?_ 0 _ rfl; (with_reducible repeat (first | refine blk_drewN ?_ _ | refine blk_drew ?_ | refine blk_alloc ?_ _)); exact BK.out) Tryd.underlying50 rfl (by kernel_rfl)) rfl ?_
 exact ⟨rfl, by repeat (first | (with_reducible first | exact HB.out | apply below_alloc | apply pw_below_drewN | apply below_drew1 | refine below_set ?_ GE.out) | exact HB.out)⟩

set_option maxHeartbeats 4000000 in
set_option maxRecDepth 100000 in
theorem opt5 (n : Int) (v : ByteArray) (w : World) :
  Calls Tryd.prog 26 #[.int .i64 5, .int .i64 (n : Int), .string v] w fun e w' => e = .returned (.agg #[.string ((⟨#[100, 101, 115, 116, 105, 110, 97, 116, 105, 111, 110]⟩ : ByteArray)), .string v]) ∧ Below w.heap.size w w' := by
 have hu50 := Tryd.underlying50
 have HB := Aside0.mk (Below.refl w.heap.size w)
 go_enter Tryd.func26, Tryd.ntmps26
 go_wp2_with (first | ((with_reducible refine gate_dst (N := 6) rfl ?_); refine box_event ?hg (N := 6) ?hd (cs := #[.string (⟨#[]⟩ : ByteArray), .string (⟨#[]⟩ : ByteArray)]) (t := 50) ?hr ?_; (case hd => rfl); (case hg => rfl); (case hr => first | (go_simp; done) | (go_simp; rfl)); intro gb hg w3 hbox hb; have n0_ := Aside0.mk (below_step (by repeat (first | (with_reducible first | exact HB.out | apply below_alloc | apply pw_below_drewN | apply below_drew1) | exact HB.out)) hb); have n1_ := Aside0.mk hbox; have n2_ := Aside0.mk ((by rw [hg]; exact (below_size (by repeat (first | (with_reducible first | exact HB.out | apply below_alloc | apply pw_below_drewN | apply below_drew1) | exact HB.out)))) : w.heap.size ≤ gb); clear HB; have HB := n0_; have BK := n1_; have GE := n2_; clear n0_ n1_ n2_; clear hb hbox hg) | (go_at_call 33; refine (dbus_WithMatchDestination.calls v _ _ _ rfl).mono ?_; rintro e w4 ⟨rfl, hb⟩; have n0_ := Aside0.mk (blk_below (g := gb) (o := .cells #[.string (⟨#[]⟩ : ByteArray), .string (⟨#[]⟩ : ByteArray)] 50 (0, 0)) (by (with_reducible repeat (first | refine blk_drewN ?_ _ | refine blk_drew ?_ | refine blk_alloc ?_ _)); exact BK.out) hb); have n1_ := Aside0.mk (below_step (by repeat (first | (with_reducible first | exact HB.out | apply below_alloc | apply pw_below_drewN | apply below_drew1 | refine below_set ?_ GE.out) | exact HB.out)) hb); clear BK; clear HB; have BK := n0_; have HB := n1_; clear n0_ n1_; (try clear hb); have hcz0 : w4.cell? ⟨gb, 0, none⟩ = some (.string (⟨#[]⟩ : ByteArray)) := (blk_cell BK.out 0).trans rfl; have hcz1 : w4.cell? ⟨gb, 1, none⟩ = some (.string (⟨#[]⟩ : ByteArray)) := (blk_cell BK.out 1).trans rfl; have hfz0 := blk_frozen BK.out 0; have hfz1 := blk_frozen BK.out 1))
 refine bodyPost_ret (results_cell_row rfl _ _ gb 50 #[Value.string (((⟨#[100, 101, 115, 116, 105, 110, 97, 116, 105, 111, 110]⟩ : ByteArray))), Value.string v] (0, 0) _ rfl (by (with_reducible repeat (first | refine blk_drewN ?_ _ | refine blk_drew ?_ | refine blk_alloc ?_ _)); refine blk_put (cs := #[Value.string (((⟨#[100, 101, 115, 116, 105, 110, 97, 116, 105, 111, 110]⟩ : ByteArray))), Value.string (⟨#[]⟩ : ByteArray)]) ?_ 1 _ rfl; (with_reducible repeat (first | refine blk_drewN ?_ _ | refine blk_drew ?_ | refine blk_alloc ?_ _)); refine blk_put (cs := #[.string (⟨#[]⟩ : ByteArray), .string (⟨#[]⟩ : ByteArray)]) ?_ 0 _ rfl; (with_reducible repeat (first | refine blk_drewN ?_ _ | refine blk_drew ?_ | refine blk_alloc ?_ _)); exact BK.out) Tryd.underlying50 rfl (by kernel_rfl)) rfl ?_
 exact ⟨rfl, by repeat (first | (with_reducible first | exact HB.out | apply below_alloc | apply pw_below_drewN | apply below_drew1 | refine below_set ?_ GE.out) | exact HB.out)⟩

set_option maxHeartbeats 4000000 in
set_option maxRecDepth 100000 in
theorem opt6 (n : Nat) (hn : n ≤ 63) (v : ByteArray) (w : World) :
  Calls Tryd.prog 26 #[.int .i64 6, .int .i64 (n : Int), .string v] w fun e w' => e = .returned (.agg #[.string (k6 n), .string v]) ∧ Below w.heap.size w w' := by
 have hu50 := Tryd.underlying50
 have HB := Aside0.mk (Below.refl w.heap.size w)
 go_enter Tryd.func26, Tryd.ntmps26
 go_wp2_with (first | ((with_reducible refine gate_dst (N := 6) rfl ?_); refine box_event ?hg (N := 6) ?hd (cs := #[.string (⟨#[]⟩ : ByteArray), .string (⟨#[]⟩ : ByteArray)]) (t := 50) ?hr ?_; (case hd => rfl); (case hg => rfl); (case hr => first | (go_simp; done) | (go_simp; rfl)); intro gb hg w3 hbox hb; have n0_ := Aside0.mk (below_step (by repeat (first | (with_reducible first | exact HB.out | apply below_alloc | apply pw_below_drewN | apply below_drew1) | exact HB.out)) hb); have n1_ := Aside0.mk hbox; have n2_ := Aside0.mk ((by rw [hg]; exact (below_size (by repeat (first | (with_reducible first | exact HB.out | apply below_alloc | apply pw_below_drewN | apply below_drew1) | exact HB.out)))) : w.heap.size ≤ gb); clear HB; have HB := n0_; have BK := n1_; have GE := n2_; clear n0_ n1_ n2_; clear hb hbox hg) | (go_at_call 34; refine (arg6 n hn v _).mono ?_; rintro e w4 ⟨rfl, hb⟩; have n0_ := Aside0.mk (blk_below (g := gb) (o := .cells #[.string (⟨#[]⟩ : ByteArray), .string (⟨#[]⟩ : ByteArray)] 50 (0, 0)) (by (with_reducible repeat (first | refine blk_drewN ?_ _ | refine blk_drew ?_ | refine blk_alloc ?_ _)); exact BK.out) hb); have n1_ := Aside0.mk (below_step (by repeat (first | (with_reducible first | exact HB.out | apply below_alloc | apply pw_below_drewN | apply below_drew1 | refine below_set ?_ GE.out) | exact HB.out)) hb); clear BK; clear HB; have BK := n0_; have HB := n1_; clear n0_ n1_; (try clear hb); have hcz0 : w4.cell? ⟨gb, 0, none⟩ = some (.string (⟨#[]⟩ : ByteArray)) := (blk_cell BK.out 0).trans rfl; have hcz1 : w4.cell? ⟨gb, 1, none⟩ = some (.string (⟨#[]⟩ : ByteArray)) := (blk_cell BK.out 1).trans rfl; have hfz0 := blk_frozen BK.out 0; have hfz1 := blk_frozen BK.out 1))
 refine bodyPost_ret (results_cell_row rfl _ _ gb 50 #[Value.string ((k6 n)), Value.string v] (0, 0) _ rfl (by (with_reducible repeat (first | refine blk_drewN ?_ _ | refine blk_drew ?_ | refine blk_alloc ?_ _)); refine blk_put (cs := #[Value.string ((k6 n)), Value.string (⟨#[]⟩ : ByteArray)]) ?_ 1 _ rfl; (with_reducible repeat (first | refine blk_drewN ?_ _ | refine blk_drew ?_ | refine blk_alloc ?_ _)); refine blk_put (cs := #[.string (⟨#[]⟩ : ByteArray), .string (⟨#[]⟩ : ByteArray)]) ?_ 0 _ rfl; (with_reducible repeat (first | refine blk_drewN ?_ _ | refine blk_drew ?_ | refine blk_alloc ?_ _)); exact BK.out) Tryd.underlying50 rfl (by kernel_rfl)) rfl ?_
 exact ⟨rfl, by repeat (first | (with_reducible first | exact HB.out | apply below_alloc | apply pw_below_drewN | apply below_drew1 | refine below_set ?_ GE.out) | exact HB.out)⟩

set_option maxHeartbeats 4000000 in
set_option maxRecDepth 100000 in
theorem opt7 (n : Nat) (hn : n ≤ 63) (v : ByteArray) (w : World) :
  Calls Tryd.prog 26 #[.int .i64 7, .int .i64 (n : Int), .string v] w fun e w' => e = .returned (.agg #[.string (k7 n), .string v]) ∧ Below w.heap.size w w' := by
 have hu50 := Tryd.underlying50
 have HB := Aside0.mk (Below.refl w.heap.size w)
 go_enter Tryd.func26, Tryd.ntmps26
 go_wp2_with (first | ((with_reducible refine gate_dst (N := 6) rfl ?_); refine box_event ?hg (N := 6) ?hd (cs := #[.string (⟨#[]⟩ : ByteArray), .string (⟨#[]⟩ : ByteArray)]) (t := 50) ?hr ?_; (case hd => rfl); (case hg => rfl); (case hr => first | (go_simp; done) | (go_simp; rfl)); intro gb hg w3 hbox hb; have n0_ := Aside0.mk (below_step (by repeat (first | (with_reducible first | exact HB.out | apply below_alloc | apply pw_below_drewN | apply below_drew1) | exact HB.out)) hb); have n1_ := Aside0.mk hbox; have n2_ := Aside0.mk ((by rw [hg]; exact (below_size (by repeat (first | (with_reducible first | exact HB.out | apply below_alloc | apply pw_below_drewN | apply below_drew1) | exact HB.out)))) : w.heap.size ≤ gb); clear HB; have HB := n0_; have BK := n1_; have GE := n2_; clear n0_ n1_ n2_; clear hb hbox hg) | (go_at_call 35; refine (arg7 n hn v _).mono ?_; rintro e w4 ⟨rfl, hb⟩; have n0_ := Aside0.mk (blk_below (g := gb) (o := .cells #[.string (⟨#[]⟩ : ByteArray), .string (⟨#[]⟩ : ByteArray)] 50 (0, 0)) (by (with_reducible repeat (first | refine blk_drewN ?_ _ | refine blk_drew ?_ | refine blk_alloc ?_ _)); exact BK.out) hb); have n1_ := Aside0.mk (below_step (by repeat (first | (with_reducible first | exact HB.out | apply below_alloc | apply pw_below_drewN | apply below_drew1 | refine below_set ?_ GE.out) | exact HB.out)) hb); clear BK; clear HB; have BK := n0_; have HB := n1_; clear n0_ n1_; (try clear hb); have hcz0 : w4.cell? ⟨gb, 0, none⟩ = some (.string (⟨#[]⟩ : ByteArray)) := (blk_cell BK.out 0).trans rfl; have hcz1 : w4.cell? ⟨gb, 1, none⟩ = some (.string (⟨#[]⟩ : ByteArray)) := (blk_cell BK.out 1).trans rfl; have hfz0 := blk_frozen BK.out 0; have hfz1 := blk_frozen BK.out 1))
 refine bodyPost_ret (results_cell_row rfl _ _ gb 50 #[Value.string ((k7 n)), Value.string v] (0, 0) _ rfl (by (with_reducible repeat (first | refine blk_drewN ?_ _ | refine blk_drew ?_ | refine blk_alloc ?_ _)); refine blk_put (cs := #[Value.string ((k7 n)), Value.string (⟨#[]⟩ : ByteArray)]) ?_ 1 _ rfl; (with_reducible repeat (first | refine blk_drewN ?_ _ | refine blk_drew ?_ | refine blk_alloc ?_ _)); refine blk_put (cs := #[.string (⟨#[]⟩ : ByteArray), .string (⟨#[]⟩ : ByteArray)]) ?_ 0 _ rfl; (with_reducible repeat (first | refine blk_drewN ?_ _ | refine blk_drew ?_ | refine blk_alloc ?_ _)); exact BK.out) Tryd.underlying50 rfl (by kernel_rfl)) rfl ?_
 exact ⟨rfl, by repeat (first | (with_reducible first | exact HB.out | apply below_alloc | apply pw_below_drewN | apply below_drew1 | refine below_set ?_ GE.out) | exact HB.out)⟩

set_option maxHeartbeats 4000000 in
set_option maxRecDepth 100000 in
theorem opt8 (n : Int) (v : ByteArray) (w : World) :
  Calls Tryd.prog 26 #[.int .i64 8, .int .i64 (n : Int), .string v] w fun e w' => e = .returned (.agg #[.string ((⟨#[97, 114, 103, 48, 110, 97, 109, 101, 115, 112, 97, 99, 101]⟩ : ByteArray)), .string v]) ∧ Below w.heap.size w w' := by
 have hu50 := Tryd.underlying50
 have HB := Aside0.mk (Below.refl w.heap.size w)
 go_enter Tryd.func26, Tryd.ntmps26
 go_wp2_with (first | ((with_reducible refine gate_dst (N := 6) rfl ?_); refine box_event ?hg (N := 6) ?hd (cs := #[.string (⟨#[]⟩ : ByteArray), .string (⟨#[]⟩ : ByteArray)]) (t := 50) ?hr ?_; (case hd => rfl); (case hg => rfl); (case hr => first | (go_simp; done) | (go_simp; rfl)); intro gb hg w3 hbox hb; have n0_ := Aside0.mk (below_step (by repeat (first | (with_reducible first | exact HB.out | apply below_alloc | apply pw_below_drewN | apply below_drew1) | exact HB.out)) hb); have n1_ := Aside0.mk hbox; have n2_ := Aside0.mk ((by rw [hg]; exact (below_size (by repeat (first | (with_reducible first | exact HB.out | apply below_alloc | apply pw_below_drewN | apply below_drew1) | exact HB.out)))) : w.heap.size ≤ gb); clear HB; have HB := n0_; have BK := n1_; have GE := n2_; clear n0_ n1_ n2_; clear hb hbox hg) | (go_at_call 36; refine (dbus_WithMatchArg0Namespace.calls v _ _ _ rfl).mono ?_; rintro e w4 ⟨rfl, hb⟩; have n0_ := Aside0.mk (blk_below (g := gb) (o := .cells #[.string (⟨#[]⟩ : ByteArray), .string (⟨#[]⟩ : ByteArray)] 50 (0, 0)) (by (with_reducible repeat (first | refine blk_drewN ?_ _ | refine blk_drew ?_ | refine blk_alloc ?_ _)); exact BK.out) hb); have n1_ := Aside0.mk (below_step (by repeat (first | (with_reducible first | exact HB.out | apply below_alloc | apply pw_below_drewN | apply below_drew1 | refine below_set ?_ GE.out) | exact HB.out)) hb); clear BK; clear HB; have BK := n0_; have HB := n1_; clear n0_ n1_; (try clear hb); have hcz0 : w4.cell? ⟨gb, 0, none⟩ = some (.string (⟨#[]⟩ : ByteArray)) := (blk_cell BK.out 0).trans rfl; have hcz1 : w4.cell? ⟨gb, 1, none⟩ = some (.string (⟨#[]⟩ : ByteArray)) := (blk_cell BK.out 1).trans rfl; have hfz0 := blk_frozen BK.out 0; have hfz1 := blk_frozen BK.out 1))
 refine bodyPost_ret (results_cell_row rfl _ _ gb 50 #[Value.string (((⟨#[97, 114, 103, 48, 110, 97, 109, 101, 115, 112, 97, 99, 101]⟩ : ByteArray))), Value.string v] (0, 0) _ rfl (by (with_reducible repeat (first | refine blk_drewN ?_ _ | refine blk_drew ?_ | refine blk_alloc ?_ _)); refine blk_put (cs := #[Value.string (((⟨#[97, 114, 103, 48, 110, 97, 109, 101, 115, 112, 97, 99, 101]⟩ : ByteArray))), Value.string (⟨#[]⟩ : ByteArray)]) ?_ 1 _ rfl; (with_reducible repeat (first | refine blk_drewN ?_ _ | refine blk_drew ?_ | refine blk_alloc ?_ _)); refine blk_put (cs := #[.string (⟨#[]⟩ : ByteArray), .string (⟨#[]⟩ : ByteArray)]) ?_ 0 _ rfl; (with_reducible repeat (first | refine blk_drewN ?_ _ | refine blk_drew ?_ | refine blk_alloc ?_ _)); exact BK.out) Tryd.underlying50 rfl (by kernel_rfl)) rfl ?_
 exact ⟨rfl, by repeat (first | (with_reducible first | exact HB.out | apply below_alloc | apply pw_below_drewN | apply below_drew1 | refine below_set ?_ GE.out) | exact HB.out)⟩

/-! ### with, MtWith -/
theorem catch_idle (a b c : Addr) (w : World) :
  CallsD Tryd.prog 24 #[.pointer (some a), .pointer (some b), .pointer (some c)] .returning w fun e u' w' => e = .returned (.tuple #[]) ∧ u' = .returning ∧ w' = w := by
 refine callsD_of_wpS Tryd.func24 rfl fun c₀ cs hu => ?_
 apply wpS_seq
 apply wpS_region
 simp [wpOpsS, go_sem, recoverD, hu, Tryd.ntmps24, Exit.thenS]
 refine wpS_cond (t := false) (by simp [Act.eval, Array.replicate]) ?_
 simp only [Bool.false_eq_true, if_false]
 refine wpS_of_wp (wp_skip ?_)
 cases c₀
 simp_all [bodyPostS, results, Tryd.results24]

/-- The key of an option's kind. -/
def optKey (kind n : Nat) : ByteArray := match kind with
 | 0 => ⟨#[115, 101, 110, 100, 101, 114]⟩
 | 1 => ⟨#[105, 110, 116, 101, 114, 102, 97, 99, 101]⟩
 | 2 => ⟨#[109, 101, 109, 98, 101, 114]⟩
 | 3 => ⟨#[112, 97, 116, 104]⟩
 | 4 => ⟨#[112, 97, 116, 104, 95, 110, 97, 109, 101, 115, 112, 97, 99, 101]⟩
 | 5 => ⟨#[100, 101, 115, 116, 105, 110, 97, 116, 105, 111, 110]⟩
 | 6 => k6 n
 | 7 => k7 n
 | _ => ⟨#[97, 114, 103, 48, 110, 97, 109, 101, 115, 112, 97, 99, 101]⟩
theorem opt_any (kind n : Nat) (hk : kind ≤ 8) (hn : n ≤ 63) (v : ByteArray) (w : World) :
  Calls Tryd.prog 26 #[.int .i64 (kind : Int), .int .i64 (n : Int), .string v] w fun e w' => e = .returned (.agg #[.string (optKey kind n), .string v]) ∧ Below w.heap.size w w' := by
 have : kind = 0 ∨ kind = 1 ∨ kind = 2 ∨ kind = 3 ∨ kind = 4 ∨ kind = 5 ∨ kind = 6 ∨ kind = 7 ∨ kind = 8 := by omega
 rcases this with rfl | rfl | rfl | rfl | rfl | rfl | rfl | rfl | rfl
 ·exact opt0 _ v w
 ·exact opt1 _ v w
 ·exact opt2 _ v w
 ·exact opt3 _ v w
 ·exact opt4 _ v w
 ·exact opt5 _ v w
 ·exact opt6 n hn v w
 ·exact opt7 n hn v w
 ·exact opt8 _ v w

def three (w w1 : World) (g : Nat) (x y : ByteArray) (b : Bool) : Prop :=
 w1.heap[g]? = some (.cells #[.string x] 9 (0, 0)) ∧ w1.heap[g + 1]? = some (.cells #[.string y] 9 (0, 0)) ∧ w1.heap[g + 2]? = some (.cells #[.bool b] 4 (0, 0)) ∧ Below w.heap.size w w1
theorem three_new (w : World) : three w (((w.alloc (.cells #[.string ⟨#[]⟩] 9)).alloc (.cells #[.string ⟨#[]⟩] 9)).alloc (.cells #[.bool false] 4)) w.heap.size ⟨#[]⟩ ⟨#[]⟩ false := by
 have s1 : ∀ (W : World) (o : Obj), (W.alloc o).heap.size = W.heap.size + 1 := fun W o => Array.size_push ..
 refine ⟨blk_alloc (blk_alloc (blk_new w _) _) _, ?_, ?_, below_alloc (below_alloc (below_alloc (Below.refl _ _) _) _) _⟩
 ·have := blk_alloc (blk_new (w.alloc (.cells #[.string ⟨#[]⟩] 9)) (.cells #[.string ⟨#[]⟩] 9)) (.cells #[.bool false] 4)
  rw [s1] at this
  exact this
 ·have := blk_new ((w.alloc (.cells #[.string ⟨#[]⟩] 9)).alloc (.cells #[.string ⟨#[]⟩] 9)) (.cells #[.bool false] 4)
  rw [s1, s1] at this
  exact this
theorem three_below {w w1 w2 : World} {x y : ByteArray} {b : Bool} (h : three w w1 w.heap.size x y b) (hb : Below w1.heap.size w1 w2) : three w w2 w.heap.size x y b :=
 ⟨blk_below h.1 hb, blk_below h.2.1 hb, blk_below h.2.2.1 hb, below_step h.2.2.2 hb⟩
theorem three_drew {w w1 : World} {g : Nat} {x y : ByteArray} {b : Bool} (h : three w w1 g x y b) : three w w1.drew g x y b := ⟨blk_drew h.1, blk_drew h.2.1, blk_drew h.2.2.1, below_drew1 h.2.2.2⟩
theorem three_0 {w w1 : World} {x y : ByteArray} {b : Bool} (h : three w w1 w.heap.size x y b) (z : ByteArray) : three w (w1.setCell ⟨w.heap.size, 0, none⟩ (.string z)) w.heap.size z y b :=
 ⟨blk_put h.1 0 _ rfl, blk_far h.2.1 (by show w.heap.size + 1 ≠ w.heap.size; omega) _, blk_far h.2.2.1 (by show w.heap.size + 2 ≠ w.heap.size; omega) _, below_set h.2.2.2 (Nat.le_refl _)⟩
theorem three_1 {w w1 : World} {x y : ByteArray} {b : Bool} (h : three w w1 w.heap.size x y b) (z : ByteArray) : three w (w1.setCell ⟨w.heap.size + 1, 0, none⟩ (.string z)) w.heap.size x z b :=
 ⟨blk_far h.1 (by show w.heap.size ≠ w.heap.size + 1; omega) _, blk_put h.2.1 0 _ rfl, blk_far h.2.2.1 (by show w.heap.size + 2 ≠ w.heap.size + 1; omega) _, below_set h.2.2.2 (by omega)⟩
theorem three_2 {w w1 : World} {x y : ByteArray} {b : Bool} (h : three w w1 w.heap.size x y b) (z : Bool) : three w (w1.setCell ⟨w.heap.size + 2, 0, none⟩ (.bool z)) w.heap.size x y z :=
 ⟨blk_far h.1 (by show w.heap.size ≠ w.heap.size + 2; omega) _, blk_far h.2.1 (by show w.heap.size + 1 ≠ w.heap.size + 2; omega) _, blk_put h.2.2.1 0 _ rfl, below_set h.2.2.2 (by omega)⟩
theorem three_cells {w w1 : World} {g : Nat} {x y : ByteArray} {b : Bool} (h : three w w1 g x y b) : w1.cell? ⟨g, 0, none⟩ = some (Value.string x) ∧ w1.cell? ⟨g + 1, 0, none⟩ = some (Value.string y) ∧ w1.cell? ⟨g + 2, 0, none⟩ = some (Value.bool b) ∧ w1.frozen? ⟨g, 0, none⟩ = false ∧ w1.frozen? ⟨g + 1, 0, none⟩ = false ∧ w1.frozen? ⟨g + 2, 0, none⟩ = false :=
 ⟨(blk_cell h.1 0).trans rfl, (blk_cell h.2.1 0).trans rfl, (blk_cell h.2.2.1 0).trans rfl, blk_frozen h.1 0, blk_frozen h.2.1 0, blk_frozen h.2.2.1 0⟩

theorem leaves_congr {P : Program} {fn : Func} {t1 t2 : Array Value} {R : Ending → World → Prop} (h : results fn t1 = results fn t2) : ∀ (ds : List Deferred) (u : FrameMode) (w : World), Leaves P fn t1 R ds u w → Leaves P fn t2 R ds u w
 | [], .returning, w, ⟨v, h1, h2⟩ => ⟨v, h ▸ h1, h2⟩
 | [], .panicking c, w, x => x
 | d :: ds, u, w, ⟨hu, fv, cap, f, args, h1, h2, h3⟩ => ⟨hu, fv, cap, f, args, h1, h2, h3.mono (fun e u' w' x => by
   cases e with
   | returned v => exact leaves_congr h ds _ _ x
   | panicked c => exact leaves_congr h ds _ _ x
   | outgrown => exact x)⟩
theorem put_results (a : Act) (t : Nat) (v : Value) (ht : t = 18 ∨ t = 19) : results Tryd.f14 (a.put (some t) v).tmps = results Tryd.f14 a.tmps := by
 rcases ht with rfl | rfl <;> simp [results, Tryd.results14, Act.put, Array.getElem?_setIfInBounds]
theorem panic_put {K : Act → World → Prop} {R : Ending → World → Prop} (t : Nat) (ht : t = 18 ∨ t = 19) (v : Value) : ∀ c a w, Exit.then K (bodyPostD Tryd.prog Tryd.f14 R) (.panic c) (a.put (some t) v) w → Exit.then K (bodyPostD Tryd.prog Tryd.f14 R) (.panic c) a w :=
 fun c a w h => leaves_congr (put_results a t v ht) _ _ _ h

set_option maxHeartbeats 4000000 in
set_option maxRecDepth 100000 in
theorem with_calls (kind n : Nat) (hk : kind ≤ 8) (hn : n ≤ 63) (v : ByteArray) (w : World) :
  Calls Tryd.prog 14 #[.int .i64 (kind : Int), .int .i64 (n : Int), .string v] w fun e w' => e = .returned (.tuple #[.string (optKey kind n), .string v, .bool true]) ∧ Below w.heap.size w w' := by
 have hmf : ∀ (fn : Fn) (first cap : Array Value) (w : World), (Instr.makeFunc fn first cap).run Tryd.prog w = .ok (.func fn first cap) w := fun _ _ _ _ => rfl
 have HO := Aside0.mk (fun W => opt_any kind n hk hn v W)
 generalize optKey kind n = key at HO ⊢
 clear hk hn
 have H3 := Aside0.mk (three_new w)
 go_enter_defers Tryd.func14, Tryd.ntmps14
 go_wp2_with (first
  | (go_at_call 26; refine (HO.out _).mono ?_; rintro e w1 ⟨rfl, hb1⟩; have H4 := Aside0.mk (three_below H3.out hb1); clear hb1 H3)
  | (go_at_call 25; refine (dbus_DoorOption.calls key v _ _ _ rfl).mono ?_; rintro e w2 ⟨rfl, hb2⟩; have H5 := Aside0.mk (three_below H4.out hb2); clear hb2 H4; obtain ⟨hc0, hc1, hc2, hf0, hf1, hf2⟩ := three_cells H5.out))
 have H6 := Aside0.mk (three_1 (three_0 H5.out key) v)
 clear hc0 hc1 hc2 hf0 hf1 hf2 H5
 generalize (w2.setCell ⟨w.heap.size, 0, none⟩ (.string key)).setCell ⟨w.heap.size + 1, 0, none⟩ (.string v) = w3 at H6 ⊢
 refine start_ (n := 5) (S := fun w' => ∃ b, three w w' w.heap.size key v b) (ds := []) #[false, false, false, false, false] (by kernel_rfl) rfl rfl ⟨_, three_drew H6.out⟩ (fun hHeld => ?_); refine with_tab (T := rtab .any (opsOf Tryd.f14 3)) rfl (fun HT_ => ?_)
 have H7 := Aside0.mk (three_drew H6.out)
 clear H6
 generalize w3.drew = w4 at H7 hHeld ⊢
 refine take_ (i := 0) (N := some 18) (v := ?_) (a' := ?_) #[true, false, false, false, false] rfl rfl (take_of HT_.out (by kernel_rfl)) (panic_put 18 (by decide) _) (Or.inl ⟨by rfl, ?_⟩) hHeld ?_ ?_
 rotate_left
 ·rintro w' ⟨b, hb⟩
  obtain ⟨hc0, hc1, hc2, hf0, hf1, hf2⟩ := three_cells hb
  go_simp
  with_reducible rfl
 rotate_left
 ·simp only [Act.put, List.setIfInBounds_toArray, List.set_cons_zero, List.set_cons_succ, i64_w, i32_w]
  rfl
 refine take_ (i := 1) (N := some 19) (v := ?_) (a' := ?_) #[true, true, false, false, false] rfl rfl (take_of HT_.out (by kernel_rfl)) (panic_put 19 (by decide) _) (Or.inl ⟨by rfl, ?_⟩) hHeld ?_ ?_
 rotate_left
 ·rintro w' ⟨b, hb⟩
  obtain ⟨hc0, hc1, hc2, hf0, hf1, hf2⟩ := three_cells hb
  go_simp
  with_reducible rfl
 rotate_left
 ·simp only [Act.put, List.setIfInBounds_toArray, List.set_cons_zero, List.set_cons_succ, i64_w, i32_w]
  rfl
 refine one_ (i := 2) (N := none) #[true, true, true, false, false] rfl rfl (one_of HT_.out (by kernel_rfl)) (by decide) (fun K hK => ?_)
 obtain ⟨hc0, hc1, hc2, hf0, hf1, hf2⟩ := three_cells H7.out
 refine skip_ (by rfl) rfl (w1 := w4.setCell ⟨w.heap.size, 0, none⟩ (.string key)) (by go_simp) ?_
 have H8 := Aside0.mk (three_0 H7.out key)
 refine hK.out _ _ ⟨_, H8.out⟩ (fun _ => ?_)
 clear hK K hc0 hc1 hc2 hf0 hf1 hf2 H7
 generalize w4.setCell ⟨w.heap.size, 0, none⟩ (.string key) = w5 at H8 ⊢
 refine one_ (i := 3) (N := none) #[true, true, true, true, false] rfl rfl (one_of HT_.out (by kernel_rfl)) (by decide) (fun K hK => ?_)
 obtain ⟨hc0, hc1, hc2, hf0, hf1, hf2⟩ := three_cells H8.out
 refine skip_ (by rfl) rfl (w1 := w5.setCell ⟨w.heap.size + 1, 0, none⟩ (.string v)) (by go_simp) ?_
 have H9 := Aside0.mk (three_1 H8.out v)
 refine hK.out _ _ ⟨_, H9.out⟩ (fun _ => ?_)
 clear hK K hc0 hc1 hc2 hf0 hf1 hf2 H8
 generalize w5.setCell ⟨w.heap.size + 1, 0, none⟩ (.string v) = w6 at H9 ⊢
 refine one_ (i := 4) (N := none) #[true, true, true, true, true] rfl rfl (one_of HT_.out (by kernel_rfl)) (by decide) (fun K hK => ?_)
 obtain ⟨hc0, hc1, hc2, hf0, hf1, hf2⟩ := three_cells H9.out
 refine skip_ (by rfl) rfl (w1 := w6.setCell ⟨w.heap.size + 2, 0, none⟩ (.bool true)) (by go_simp) ?_
 have HA := Aside0.mk (three_2 H9.out true)
 refine hK.out _ _ ⟨_, HA.out⟩ (fun _ => ?_)
 clear hK K hc0 hc1 hc2 hf0 hf1 hf2 H9
 generalize w6.setCell ⟨w.heap.size + 2, 0, none⟩ (.bool true) = w7 at HA ⊢
 refine done_ (done_of HT_.out (by kernel_rfl)) ?_
 go_wp2
 refine leaves_cons (f := 24) (args := #[.pointer (some ⟨w.heap.size, 0, none⟩), .pointer (some ⟨w.heap.size + 1, 0, none⟩), .pointer (some ⟨w.heap.size + 2, 0, none⟩)]) (by simp) (by simp [go_sem]) ?_
 refine (catch_idle _ _ _ _).mono ?_
 rintro e u' w'' ⟨rfl, rfl, rfl⟩
 obtain ⟨hc0, hc1, hc2, hf0, hf1, hf2⟩ := three_cells HA.out
 have hbf := HA.out.2.2.2
 simp [Leaves, settle, results, Tryd.results14, go_sem, hc0, hc1, hc2]
 exact hbf

end Go.Proofs.YtoldgnmgjpjapaaDoor.Wm
