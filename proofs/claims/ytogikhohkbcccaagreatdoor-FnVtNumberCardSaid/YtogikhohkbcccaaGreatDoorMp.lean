import Derived.Test.YtogikhohkbcccaaGreatDoorDo
import Derived.WideMake
namespace Go.Proofs.YtogikhohkbcccaaGreatDoor.To
set_option linter.unusedVariables false
set_option linter.unusedSimpArgs false
open Go.RowKit

theorem mp_top (A : World) (o o' : Obj) : ({ (A.alloc o) with heap := (A.alloc o).heap.setIfInBounds A.heap.size o' } : World) = A.alloc o' := by
  show ({ A with heap := (A.heap.push o).setIfInBounds A.heap.size o' } : World) = { A with heap := A.heap.push o' }
  congr 1
  apply Array.ext
  · simp
  · intro i h1 h2
    rw [Array.getElem_setIfInBounds (by simpa using h1), Array.getElem_push, Array.getElem_push]
    have : i < A.heap.size + 1 := by simpa using h2
    split <;> split <;> first | rfl | omega
set_option maxRecDepth 100000 in
theorem mp_ins (A : World) (c : Nat) (es : Array MapEntry) (k : Int) (v : Value) (hf : Instr.findNow (.int .u8) (.int .u8 k) es.toList 0 = some none) :
    (Instr.mapUpdate 36 (.map (some A.heap.size)) (.int .u8 k) v).run Tryz.prog (A.alloc (.map es c)) = .ok () (A.alloc (.map (es.push { key := .int .u8 k, val := v, born := c }) (c + 1))) := by
  have hm : Tryz.prog.underlying 36 = some (.map 5 3) := by kernel_rfl
  have hk : Tryz.prog.underlying 5 = some (.int .u8) := Tryz.underlying5
  have hb : (A.alloc (.map es c)).heap[A.heap.size]? = some (.map es c) := alloc_top A _
  have hc : ∀ W, (Instr.checkKey false 10000 5 (.int .u8 k)).run Tryz.prog W = .ok () W := fun W => MapKept.run_checkKey hk (by simp [MapKept.IsKey]) false 9999
  rw [← mp_top A (.map es c) (.map (es.push { key := .int .u8 k, val := v, born := c }) (c + 1))]
  generalize A.alloc (.map es c) = W at hb ⊢
  simp [Instr.mapUpdate, run_underlying hm, MapKept.run_getObj_map hb, hc, MapKept.run_findKey hk hf, MapKept.run_setObj_map _ hb, Result.andThen]
set_option maxRecDepth 100000 in
theorem mp_look (A : World) (c : Nat) (es : Array MapEntry) (k : Int) (i : Nat) (v : Value) (hf : Instr.findNow (.int .u8) (.int .u8 k) es.toList 0 = some (some (i, v))) (he : es.isEmpty = false) :
    (Instr.lookup 36 (.map (some A.heap.size)) (.int .u8 k) false).run Tryz.prog (A.alloc (.map es c)) = .ok v (A.alloc (.map es c)) := by
  have hm : Tryz.prog.underlying 36 = some (.map 5 3) := by kernel_rfl
  have hk : Tryz.prog.underlying 5 = some (.int .u8) := Tryz.underlying5
  have hb : (A.alloc (.map es c)).heap[A.heap.size]? = some (.map es c) := alloc_top A _
  have hc : ∀ W, (Instr.checkKey false 10000 5 (.int .u8 k)).run Tryz.prog W = .ok () W := fun W => MapKept.run_checkKey hk (by simp [MapKept.IsKey]) false 9999
  simp only [Instr.lookup]
  simp [run_underlying hm, MapKept.run_getObj_map hb, hc, MapKept.run_findKey hk hf, Result.andThen, he]
set_option maxRecDepth 100000 in
theorem mp_miss (A : World) (c : Nat) (es : Array MapEntry) (k : Int) (hf : Instr.findNow (.int .u8) (.int .u8 k) es.toList 0 = some none) (he : es.isEmpty = false) :
    (Instr.lookup 36 (.map (some A.heap.size)) (.int .u8 k) false).run Tryz.prog (A.alloc (.map es c)) = .ok (.int .i64 0) (A.alloc (.map es c)) := by
  have hm : Tryz.prog.underlying 36 = some (.map 5 3) := by kernel_rfl
  have hk : Tryz.prog.underlying 5 = some (.int .u8) := Tryz.underlying5
  have hb : (A.alloc (.map es c)).heap[A.heap.size]? = some (.map es c) := alloc_top A _
  have hc : ∀ W, (Instr.checkKey false 10000 5 (.int .u8 k)).run Tryz.prog W = .ok () W := fun W => MapKept.run_checkKey hk (by simp [MapKept.IsKey]) false 9999
  have hz : ∀ W, (zeroValue 3).run Tryz.prog W = .ok (.int .i64 0) W := fun W => by kernel_rfl
  simp only [Instr.lookup]
  simp [run_underlying hm, MapKept.run_getObj_map hb, hc, MapKept.run_findKey hk hf, Result.andThen, he, hz]
def mpL : List (Int × Int) := [(121, 8), (110, 16), (113, 16), (105, 32), (117, 32), (120, 64), (116, 64)]
def mpE (j : Nat) : Array MapEntry := ((mpL.take j).zipIdx.map fun x => ({ key := .int .u8 x.1.1, val := .int .i64 x.1.2, born := x.2 } : MapEntry)).toArray
theorem mp_step (A : World) (j : Nat) (k m : Int) (hf : Instr.findNow (.int .u8) (.int .u8 k) (mpE j).toList 0 = some none) (he : (mpE j).push { key := .int .u8 k, val := .int .i64 m, born := j } = mpE (j + 1)) :
    (Instr.mapUpdate 36 (.map (some A.heap.size)) (.int .u8 k) (.int .i64 m)).run Tryz.prog (A.alloc (.map (mpE j) j)) = .ok () (A.alloc (.map (mpE (j + 1)) (j + 1))) := by
  rw [mp_ins A j _ k _ hf, he]
theorem mp0 (A : World) : (Instr.mapUpdate 36 (.map (some A.heap.size)) (.int .u8 121) (.int .i64 8)).run Tryz.prog (A.alloc (.map #[] 0)) = .ok () (A.alloc (.map (mpE 1) 1)) := mp_step A 0 121 8 rfl rfl
theorem mp1 (A : World) : (Instr.mapUpdate 36 (.map (some A.heap.size)) (.int .u8 110) (.int .i64 16)).run Tryz.prog (A.alloc (.map (mpE 1) 1)) = .ok () (A.alloc (.map (mpE 2) 2)) := mp_step A 1 110 16 rfl rfl
theorem mp2 (A : World) : (Instr.mapUpdate 36 (.map (some A.heap.size)) (.int .u8 113) (.int .i64 16)).run Tryz.prog (A.alloc (.map (mpE 2) 2)) = .ok () (A.alloc (.map (mpE 3) 3)) := mp_step A 2 113 16 rfl rfl
theorem mp3 (A : World) : (Instr.mapUpdate 36 (.map (some A.heap.size)) (.int .u8 105) (.int .i64 32)).run Tryz.prog (A.alloc (.map (mpE 3) 3)) = .ok () (A.alloc (.map (mpE 4) 4)) := mp_step A 3 105 32 rfl rfl
theorem mp4 (A : World) : (Instr.mapUpdate 36 (.map (some A.heap.size)) (.int .u8 117) (.int .i64 32)).run Tryz.prog (A.alloc (.map (mpE 4) 4)) = .ok () (A.alloc (.map (mpE 5) 5)) := mp_step A 4 117 32 rfl rfl
theorem mp5 (A : World) : (Instr.mapUpdate 36 (.map (some A.heap.size)) (.int .u8 120) (.int .i64 64)).run Tryz.prog (A.alloc (.map (mpE 5) 5)) = .ok () (A.alloc (.map (mpE 6) 6)) := mp_step A 5 120 64 rfl rfl
theorem mp6 (A : World) : (Instr.mapUpdate 36 (.map (some A.heap.size)) (.int .u8 116) (.int .i64 64)).run Tryz.prog (A.alloc (.map (mpE 6) 6)) = .ok () (A.alloc (.map (mpE 7) 7)) := mp_step A 6 116 64 rfl rfl
theorem mpy (A : World) : (Instr.lookup 36 (.map (some A.heap.size)) (.int .u8 121) false).run Tryz.prog (A.alloc (.map (mpE 7) 7)) = .ok (.int .i64 8) (A.alloc (.map (mpE 7) 7)) := mp_look A 7 _ 121 0 _ rfl rfl
theorem mpn (A : World) : (Instr.lookup 36 (.map (some A.heap.size)) (.int .u8 110) false).run Tryz.prog (A.alloc (.map (mpE 7) 7)) = .ok (.int .i64 16) (A.alloc (.map (mpE 7) 7)) := mp_look A 7 _ 110 1 _ rfl rfl
theorem mpq (A : World) : (Instr.lookup 36 (.map (some A.heap.size)) (.int .u8 113) false).run Tryz.prog (A.alloc (.map (mpE 7) 7)) = .ok (.int .i64 16) (A.alloc (.map (mpE 7) 7)) := mp_look A 7 _ 113 2 _ rfl rfl
theorem mpi (A : World) : (Instr.lookup 36 (.map (some A.heap.size)) (.int .u8 105) false).run Tryz.prog (A.alloc (.map (mpE 7) 7)) = .ok (.int .i64 32) (A.alloc (.map (mpE 7) 7)) := mp_look A 7 _ 105 3 _ rfl rfl
theorem mpu (A : World) : (Instr.lookup 36 (.map (some A.heap.size)) (.int .u8 117) false).run Tryz.prog (A.alloc (.map (mpE 7) 7)) = .ok (.int .i64 32) (A.alloc (.map (mpE 7) 7)) := mp_look A 7 _ 117 4 _ rfl rfl
theorem mpx (A : World) : (Instr.lookup 36 (.map (some A.heap.size)) (.int .u8 120) false).run Tryz.prog (A.alloc (.map (mpE 7) 7)) = .ok (.int .i64 64) (A.alloc (.map (mpE 7) 7)) := mp_look A 7 _ 120 5 _ rfl rfl
theorem mpt (A : World) : (Instr.lookup 36 (.map (some A.heap.size)) (.int .u8 116) false).run Tryz.prog (A.alloc (.map (mpE 7) 7)) = .ok (.int .i64 64) (A.alloc (.map (mpE 7) 7)) := mp_look A 7 _ 116 6 _ rfl rfl
theorem mpd (A : World) : (Instr.lookup 36 (.map (some A.heap.size)) (.int .u8 100) false).run Tryz.prog (A.alloc (.map (mpE 7) 7)) = .ok (.int .i64 0) (A.alloc (.map (mpE 7) 7)) := mp_miss A 7 _ 100 rfl rfl
end Go.Proofs.YtogikhohkbcccaaGreatDoor.To
