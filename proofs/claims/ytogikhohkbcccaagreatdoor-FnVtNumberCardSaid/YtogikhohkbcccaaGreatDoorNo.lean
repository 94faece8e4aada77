import Derived.Test.YtogikhohkbcccaaGreatDoorMp
import Derived.Test.YtogikhohkbcccaaGreatDoorVn
import Derived.Test.YtogikhohkbcccaaGreatDoorVke
import Derived.Test.YtogikhohkbcccaaGreatDoorDo
namespace Go.Proofs.YtogikhohkbcccaaGreatDoor.To
set_option linter.unusedVariables false
set_option linter.unusedSimpArgs false
open Go.RowKit Go.Proofs.YtogikhohkbcccaaGreatDoorW.PrintWords Go.Proofs.YtogikhohkbcccaaGreatDoorW.PrintLast Go.Proofs.YtogikhohkbcccaaGreatDoorW.PrintMore Go.Proofs.YtogikhohkbcccaaGreatDoor.De

/-- A value in cells. -/
abbrev vc (k n : Int) : Array Value := #[.int .u8 k, .int .u64 n, .string ⟨#[]⟩, .slice none 0 0]
/-- The world of NumberOf: the answer's block, the value's. -/
structure NW (w W : World) (K : Int) : Prop where
  a : W.heap[w.heap.size]? = some (.cells (vc 0 0) 27 (0, 0))
  b : W.heap[w.heap.size + 1]? = some (.cells (vc K 0) 27 (0, 0))
  below : Below w.heap.size w W
  size : w.heap.size + 1 < W.heap.size
theorem NW.mk' (w : World) (K : Int) : NW w ((w.alloc (Obj.cells (vc 0 0) 27)).alloc (Obj.cells (vc K 0) 27)) K := by
  have h1 : (w.alloc (Obj.cells (vc 0 0) 27)).heap.size = w.heap.size + 1 := by simp [World.alloc, -World.alloc_eq]
  refine ⟨blk_alloc (alloc_top w _) _, ?_, below_alloc (below_alloc (Below.refl _ _) _) _, ?_⟩
  · rw [← h1]; exact alloc_top _ _
  · simp [World.alloc, -World.alloc_eq]
theorem NW.step {w W W' : World} {K : Int} (h : NW w W K) (hb : Below W.heap.size W W') : NW w W' K :=
  ⟨(hb.block _ (by have := h.size; omega)).trans h.a, (hb.block _ h.size).trans h.b, h.below.trans (hb.mono h.below.size), Nat.lt_of_lt_of_le h.size hb.size⟩
theorem NW.alloc {w W : World} {K : Int} (h : NW w W K) (o : Obj) : NW w (W.alloc o) K := h.step (below_alloc (Below.refl _ _) _)
/-- What NumberOf answers. -/
def OAns (r : Int × Option Int) (K : Int) (n : Int) (e : Ending) : Prop :=
  (r.2 = none ∧ e = .returned (.tuple #[.agg (vc K n), .bool true])) ∨ (r.2 ≠ none ∧ e = .returned (.tuple #[.agg (vc 0 0), .bool false]))
/-- The facts that a walk wants of a block of four cells. -/
theorem cells4 {W : World} {g : Nat} {x0 x1 x2 x3 : Value} (h : W.heap[g]? = some (.cells #[x0, x1, x2, x3] 27 (0, 0))) :
    W.cell? ⟨g, 0, none⟩ = some x0 ∧ W.cell? ⟨g, 1, none⟩ = some x1 ∧ W.cell? ⟨g, 2, none⟩ = some x2 ∧ W.cell? ⟨g, 3, none⟩ = some x3 ∧ W.frozen? ⟨g, 0, none⟩ = false ∧ W.frozen? ⟨g, 1, none⟩ = false ∧ W.frozen? ⟨g, 2, none⟩ = false ∧ W.frozen? ⟨g, 3, none⟩ = false :=
  ⟨by rw [blk_cell h]; rfl, by rw [blk_cell h]; rfl, by rw [blk_cell h]; rfl, by rw [blk_cell h]; rfl, blk_frozen h 0, blk_frozen h 1, blk_frozen h 2, blk_frozen h 3⟩
end Go.Proofs.YtogikhohkbcccaaGreatDoor.To
