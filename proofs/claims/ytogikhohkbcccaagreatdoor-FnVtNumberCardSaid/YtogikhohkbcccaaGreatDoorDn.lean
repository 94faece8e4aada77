import Derived.Test.YtogikhohkbcccaaGreatDoorNo
import Derived.BigQuiet
import Derived.StillTailTactics
namespace Go.Proofs.YtogikhohkbcccaaGreatDoor.To
set_option linter.unusedVariables false
set_option linter.unusedSimpArgs false
open Go.RowKit Go.Proofs.YtogikhohkbcccaaGreatDoorW.PrintWords Go.Proofs.YtogikhohkbcccaaGreatDoorW.PrintLast Go.Proofs.YtogikhohkbcccaaGreatDoorW.PrintMore Go.Proofs.YtogikhohkbcccaaGreatDoor.De

theorem cells4' {W : World} {g : Nat} {t : TypeId} {x0 x1 x2 x3 : Value} (h : W.heap[g]? = some (.cells #[x0, x1, x2, x3] t (0, 0))) :
    W.cell? ⟨g, 0, none⟩ = some x0 ∧ W.cell? ⟨g, 1, none⟩ = some x1 ∧ W.cell? ⟨g, 2, none⟩ = some x2 ∧ W.cell? ⟨g, 3, none⟩ = some x3 ∧ W.frozen? ⟨g, 0, none⟩ = false ∧ W.frozen? ⟨g, 1, none⟩ = false ∧ W.frozen? ⟨g, 2, none⟩ = false ∧ W.frozen? ⟨g, 3, none⟩ = false :=
  ⟨by rw [blk_cell h]; rfl, by rw [blk_cell h]; rfl, by rw [blk_cell h]; rfl, by rw [blk_cell h]; rfl, blk_frozen h 0, blk_frozen h 1, blk_frozen h 2, blk_frozen h 3⟩
/-- The answer's block. -/
structure AW (w W : World) (t : TypeId) : Prop where
  a : W.heap[w.heap.size]? = some (.cells (vc 0 0) t (0, 0))
  below : Below w.heap.size w W
  size : w.heap.size < W.heap.size
theorem AW.mk' (w : World) (t : TypeId) : AW w (w.alloc (Obj.cells (vc 0 0) t)) t :=
  ⟨alloc_top w _, below_alloc (Below.refl _ _) _, by simp [World.alloc, -World.alloc_eq]⟩
theorem AW.step {w W W' : World} {t : TypeId} (h : AW w W t) (hb : Below W.heap.size W W') : AW w W' t :=
  ⟨(hb.block _ h.size).trans h.a, h.below.trans (hb.mono h.below.size), Nat.lt_of_lt_of_le h.size hb.size⟩
theorem AW.drew {w W : World} {t : TypeId} (h : AW w W t) : AW w W.drew t := ⟨h.a, h.below.drew, h.size⟩
theorem AW.set4 {w W : World} {t : TypeId} (h : AW w W t) (x0 x1 x2 x3 : Value) : (((W.setCell ⟨w.heap.size, 0, none⟩ x0).setCell ⟨w.heap.size, 1, none⟩ x1).setCell ⟨w.heap.size, 2, none⟩ x2 |>.setCell ⟨w.heap.size, 3, none⟩ x3).heap[w.heap.size]? = some (.cells #[x0, x1, x2, x3] t (0, 0)) :=
  blk_set (blk_set (blk_set (blk_set h.a 0 _) 1 _) 2 _) 3 _
theorem AW.below4 {w W : World} {t : TypeId} (h : AW w W t) (x0 x1 x2 x3 : Value) : Below w.heap.size w (((W.setCell ⟨w.heap.size, 0, none⟩ x0).setCell ⟨w.heap.size, 1, none⟩ x1).setCell ⟨w.heap.size, 2, none⟩ x2 |>.setCell ⟨w.heap.size, 3, none⟩ x3) :=
  (((h.below.setCell (Nat.le_refl _) _).setCell (Nat.le_refl _) _).setCell (Nat.le_refl _) _).setCell (Nat.le_refl _) _

set_option maxHeartbeats 4000000 in
set_option maxRecDepth 100000 in
theorem dn_ok (s sig : ByteArray) (v : Value) (K n : Int) (w : World)
    (HN : ∀ W, Below w.heap.size w W → Calls Tryz.prog 20 #[.string s, .agg #[.string sig]] W fun e w' => e = .returned (.tuple #[v, .nilIface]) ∧ Below W.heap.size W w')
    (HO : ∀ W, Calls Tryz.prog 21 #[v, .string sig] W fun e w' => e = .returned (.agg (vc K n)) ∧ Below W.heap.size W w') :
    Calls Tryz.prog 14 #[.string s, .string sig] w fun e w' => e = .returned (.tuple #[.agg (vc K n), .nilIface]) ∧ Below w.heap.size w w' := by
  have HA := Aside0.mk (AW.mk' w 49)
  replace HN := Aside0.mk HN
  replace HO := Aside0.mk HO
  go_enter Tryz.func14, Tryz.ntmps14
  go_wp2_with (first | (go_at_call 20; ((with_reducible refine (HN.out _ HA.out.below).mono ?_); rintro x w2 ⟨rfl, hb⟩; have HB := Aside0.mk (AW.step HA.out hb); clear hb)) | (go_at_call 21; ((with_reducible refine (HO.out _).mono ?_); rintro x w3 ⟨rfl, hb⟩; have HC := Aside0.mk (AW.step HB.out hb); clear hb; obtain ⟨a0, a1, a2, a3, fa0, fa1, fa2, fa3⟩ := cells4' HC.out.a)))
  refine bodyPost_ret (results_list (rs := [.cell 4 49, .tmp 5]) rfl (by simp) (.cell w.heap.size 49 (vc K n) (0, 0) _ rfl (HC.out.set4 _ _ _ _) Tryz.underlying49 rfl (by kernel_rfl) (.tmp .nil))) rfl ?_
  exact ⟨rfl, HC.out.below4 _ _ _ _⟩
set_option maxHeartbeats 4000000 in
set_option maxRecDepth 100000 in
theorem dn_err (s sig : ByteArray) (w : World)
    (HN : ∀ W, Below w.heap.size w W → Calls Tryz.prog 20 #[.string s, .agg #[.string sig]] W fun e w' => (∃ N, e = .returned (.tuple #[.nilIface, .iface 62 (.pointer (some ⟨N, 0, none⟩))])) ∧ Below W.heap.size W w') :
    Calls Tryz.prog 14 #[.string s, .string sig] w fun e w' => (∃ N, e = .returned (.tuple #[.agg (vc 0 0), .iface 62 (.pointer (some ⟨N, 0, none⟩))])) ∧ Below w.heap.size w w' := by
  have HA := Aside0.mk (AW.mk' w 49)
  replace HN := Aside0.mk HN
  go_enter Tryz.func14, Tryz.ntmps14
  go_wp2_with (go_at_call 20; ((with_reducible refine (HN.out _ HA.out.below).mono ?_); rintro x w2 ⟨⟨N, rfl⟩, hb⟩; have HB := Aside0.mk (AW.step HA.out hb); clear hb; obtain ⟨a0, a1, a2, a3, fa0, fa1, fa2, fa3⟩ := cells4' HB.out.a))
  refine bodyPost_ret (results_list (rs := [.cell 4 49, .tmp 5]) rfl (by simp) (.cell w.heap.size 49 (vc 0 0) (0, 0) _ rfl (HB.out.set4 _ _ _ _) Tryz.underlying49 rfl (by kernel_rfl) (.tmp .nil))) rfl ?_
  exact ⟨⟨N, rfl⟩, HB.out.below4 _ _ _ _⟩
theorem size_alloc (w : World) (o : Obj) : (w.alloc o).heap.size = w.heap.size + 1 := by simp [World.alloc, -World.alloc_eq]
/-- The world of valOut. -/
structure OW (w W : World) (K n : Int) : Prop where
  a : W.heap[w.heap.size + 1]? = some (.cells (vc 0 0) 27 (0, 0))
  b : W.heap[w.heap.size + 2]? = some (.cells (vc K n) 27 (0, 0))
  below : Below w.heap.size w W
theorem OW.mk' (w : World) (K n : Int) : OW w (((w.alloc (Obj.cells (vc K n) 49)).alloc (Obj.cells (vc 0 0) 27)).alloc (Obj.cells (vc K n) 27)) K n := by
  have h1 := size_alloc w (Obj.cells (vc K n) 49)
  have h2 := size_alloc (w.alloc (Obj.cells (vc K n) 49)) (Obj.cells (vc 0 0) 27)
  rw [h1] at h2
  refine ⟨blk_alloc ?_ _, ?_, below_alloc (below_alloc (below_alloc (Below.refl _ _) _) _) _⟩
  · rw [← h1]; exact alloc_top _ _
  · rw [show w.heap.size + 2 = w.heap.size + 1 + 1 from rfl, ← h2]; exact alloc_top _ _
set_option maxHeartbeats 4000000 in
set_option maxRecDepth 100000 in
theorem vo_calls (K n : Int) (w : World) :
    Calls Tryz.prog 15 #[.agg (vc K n)] w fun e w' => e = .returned (.agg (vc K n)) ∧ Below w.heap.size w w' := by
  have HA := Aside0.mk (OW.mk' w K n)
  go_enter Tryz.func15, Tryz.ntmps15
  go_wp2
  go_loopw [16] (fun v wr => v = .int .i64 0 ∧ Aside0 (OW w wr K n)) (fun _ _ => 0)
  case atStart => exact ⟨rfl, HA⟩
  case round =>
    clear HA
    obtain ⟨rfl, HA⟩ := hrel
    obtain ⟨a0, a1, a2, a3, fa0, fa1, fa2, fa3⟩ := cells4' HA.out.a
    obtain ⟨b0, b1, b2, b3, fb0, fb1, fb2, fb3⟩ := cells4' HA.out.b
    go_wp2
    refine bodyPost_ret (results_cell_row rfl _ _ (w.heap.size + 1) 27 (vc K n) (0, 0) _ rfl (blk_set (blk_set (blk_set (blk_set HA.out.a 0 _) 1 _) 2 _) 3 _) Tryz.underlying27 rfl (by kernel_rfl)) rfl ?_
    exact ⟨rfl, (((HA.out.below.setCell (Nat.le_succ _) _).setCell (Nat.le_succ _) _).setCell (Nat.le_succ _) _).setCell (Nat.le_succ _) _⟩
set_option maxHeartbeats 8000000 in
set_option maxRecDepth 100000 in
theorem vt_ok (s sig : ByteArray) (K n : Int) (w : World)
    (HN : ∀ W, Below w.heap.size w W → Calls Tryz.prog 14 #[.string s, .string sig] W fun e w' => e = .returned (.tuple #[.agg (vc K n), .nilIface]) ∧ Below W.heap.size W w') :
    Calls Tryz.prog 6 #[.string s, .string sig] w fun e w' => e = .returned (.tuple #[.agg (vc K n), .bool true]) ∧ Below w.heap.size w w' := by
  have HA := Aside0.mk (AW.mk' w 27)
  replace HN := Aside0.mk HN
  go_enter Tryz.func6, Tryz.ntmps6
  go_upto_region 2 with (go_at_call 14; ((with_reducible refine (HN.out _ HA.out.below).mono ?_); rintro x w2 ⟨rfl, hb⟩; have HB := Aside0.mk (AW.step HA.out hb); clear hb))
  obtain ⟨W4, hW4⟩ : ∃ W4, W4 = w2.alloc (Obj.cells (vc K n) 49) := ⟨_, rfl⟩
  have HB4 : Aside0 (AW w W4 27) := ⟨by rw [hW4]; exact AW.step HB.out (below_alloc (Below.refl _ _) _)⟩
  obtain ⟨d0, d1, d2, d3, fd0, fd1, fd2, fd3⟩ := cells4' (show W4.heap[w2.heap.size]? = some (.cells (vc K n) 49 (0, 0)) by rw [hW4]; exact alloc_top _ _)
  obtain ⟨e0, e1, e2, e3, fe0, fe1, fe2, fe3⟩ := cells4' (show W4.drew.heap[w2.heap.size]? = some (.cells (vc K n) 49 (0, 0)) by rw [hW4]; exact alloc_top _ _)
  rw [← hW4]
  clear hW4
  go_region_with (go_at_call 15; (with_reducible refine (vo_calls K n _).mono ?_); rintro x w5 ⟨rfl, hb⟩; have HC := Aside0.mk (AW.step (AW.drew HB4.out) hb); clear hb; obtain ⟨a0, a1, a2, a3, fa0, fa1, fa2, fa3⟩ := cells4' HC.out.a)
  go_wp2
  refine bodyPost_ret (results_list (rs := [.cell 4 27, .tmp 5]) rfl (by simp) (.cell w.heap.size 27 (vc K n) (0, 0) _ rfl (HC.out.set4 _ _ _ _) Tryz.underlying27 rfl (by kernel_rfl) (.tmp .nil))) rfl ?_
  exact ⟨rfl, HC.out.below4 _ _ _ _⟩
set_option maxHeartbeats 8000000 in
set_option maxRecDepth 100000 in
theorem vt_err (s sig : ByteArray) (w : World)
    (HN : ∀ W, Below w.heap.size w W → Calls Tryz.prog 14 #[.string s, .string sig] W fun e w' => (∃ N, e = .returned (.tuple #[.agg (vc 0 0), .iface 62 (.pointer (some ⟨N, 0, none⟩))])) ∧ Below W.heap.size W w') :
    Calls Tryz.prog 6 #[.string s, .string sig] w fun e w' => e = .returned (.tuple #[.agg (vc 0 0), .bool false]) ∧ Below w.heap.size w w' := by
  have HA := Aside0.mk (AW.mk' w 27)
  replace HN := Aside0.mk HN
  go_enter Tryz.func6, Tryz.ntmps6
  go_upto_region 2 with (go_at_call 14; ((with_reducible refine (HN.out _ HA.out.below).mono ?_); rintro x w2 ⟨⟨N, rfl⟩, hb⟩; have HB := Aside0.mk (AW.step HA.out hb); clear hb))
  obtain ⟨W4, hW4⟩ : ∃ W4, W4 = w2.alloc (Obj.cells (vc 0 0) 49) := ⟨_, rfl⟩
  have HB4 : Aside0 (AW w W4 27) := ⟨by rw [hW4]; exact AW.step HB.out (below_alloc (Below.refl _ _) _)⟩
  obtain ⟨d0, d1, d2, d3, fd0, fd1, fd2, fd3⟩ := cells4' (show W4.heap[w2.heap.size]? = some (.cells (vc 0 0) 49 (0, 0)) by rw [hW4]; exact alloc_top _ _)
  obtain ⟨e0, e1, e2, e3, fe0, fe1, fe2, fe3⟩ := cells4' (show W4.drew.heap[w2.heap.size]? = some (.cells (vc 0 0) 49 (0, 0)) by rw [hW4]; exact alloc_top _ _)
  rw [← hW4]
  clear hW4
  go_region_with (go_at_call 15; (with_reducible refine (vo_calls 0 0 _).mono ?_); rintro x w5 ⟨rfl, hb⟩; have HC := Aside0.mk (AW.step (AW.drew HB4.out) hb); clear hb; obtain ⟨a0, a1, a2, a3, fa0, fa1, fa2, fa3⟩ := cells4' HC.out.a)
  go_wp2
  refine bodyPost_ret (results_list (rs := [.cell 4 27, .tmp 5]) rfl (by simp) (.cell w.heap.size 27 (vc 0 0) (0, 0) _ rfl (HC.out.set4 _ _ _ _) Tryz.underlying27 rfl (by kernel_rfl) (.tmp .nil))) rfl ?_
  exact ⟨rfl, HC.out.below4 _ _ _ _⟩
end Go.Proofs.YtogikhohkbcccaaGreatDoor.To
