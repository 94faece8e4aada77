import Derived.Test.YtogikhohkbcccaaGreatDoorPi
import Derived.Deep.RegionHeld3
import Derived.BigQuiet
import Derived.Laws.Externs
namespace Go.Proofs.YtogikhohkbcccaaGreatDoor.To
set_option linter.unusedVariables false
set_option linter.unusedSimpArgs false
open Go.RowKit Go.Proofs.YtogikhohkbcccaaGreatDoorW.PrintWords Go.Proofs.YtogikhohkbcccaaGreatDoorW.PrintLast Go.Proofs.YtogikhohkbcccaaGreatDoorW.PrintMore Go.Proofs.YtogikhohkbcccaaGreatDoor.De

theorem alloc_top (w : World) (o : Obj) : (w.alloc o).heap[w.heap.size]? = some o := by simp [World.alloc, -World.alloc_eq]
theorem zero5 (W : World) : (do pure (Value.tuple #[← zeroValue 5, .bool false]) : Sem Value).run Tryz.prog W = .ok (.tuple #[.int .u8 0, .bool false]) W := by kernel_rfl
theorem yes5 (W : World) (v : Value) : (Instr.typeAssert (.iface 5 v) 20 5 true).run Tryz.prog W = .ok (.tuple #[v, .bool true]) W := by kernel_rfl
theorem no5 (W : World) (u : TypeId) (v : Value) (h : u ≠ 5) : (Instr.typeAssert (.iface u v) 20 5 true).run Tryz.prog W = .ok (.tuple #[.int .u8 0, .bool false]) W := by
  have e : (Instr.typeAssert (.iface u v) 20 5 true).run Tryz.prog W = (if u = 5 then (pure (Value.tuple #[v, .bool true]) : Sem Value) else (do pure (Value.tuple #[← zeroValue 5, .bool false]))).run Tryz.prog W := by kernel_rfl
  rw [e, if_neg h]
  exact zero5 W
theorem zero107 (W : World) : (do pure (Value.tuple #[← zeroValue 107, .bool false]) : Sem Value).run Tryz.prog W = .ok (.tuple #[.int .u8 0, .bool false]) W := by kernel_rfl
theorem no107 (W : World) (u : TypeId) (v : Value) (h : u ≠ 107) : (Instr.typeAssert (.iface u v) 20 107 true).run Tryz.prog W = .ok (.tuple #[.int .u8 0, .bool false]) W := by
  have e : (Instr.typeAssert (.iface u v) 20 107 true).run Tryz.prog W = (if u = 107 then (pure (Value.tuple #[v, .bool true]) : Sem Value) else (do pure (Value.tuple #[← zeroValue 107, .bool false]))).run Tryz.prog W := by kernel_rfl
  rw [e, if_neg h]
  exact zero107 W
theorem zero108 (W : World) : (do pure (Value.tuple #[← zeroValue 108, .bool false]) : Sem Value).run Tryz.prog W = .ok (.tuple #[.int .u8 0, .bool false]) W := by kernel_rfl
theorem no108 (W : World) (u : TypeId) (v : Value) (h : u ≠ 108) : (Instr.typeAssert (.iface u v) 20 108 true).run Tryz.prog W = .ok (.tuple #[.int .u8 0, .bool false]) W := by
  have e : (Instr.typeAssert (.iface u v) 20 108 true).run Tryz.prog W = (if u = 108 then (pure (Value.tuple #[v, .bool true]) : Sem Value) else (do pure (Value.tuple #[← zeroValue 108, .bool false]))).run Tryz.prog W := by kernel_rfl
  rw [e, if_neg h]
  exact zero108 W
theorem zero109 (W : World) : (do pure (Value.tuple #[← zeroValue 109, .bool false]) : Sem Value).run Tryz.prog W = .ok (.tuple #[.int .u8 0, .bool false]) W := by kernel_rfl
theorem no109 (W : World) (u : TypeId) (v : Value) (h : u ≠ 109) : (Instr.typeAssert (.iface u v) 20 109 true).run Tryz.prog W = .ok (.tuple #[.int .u8 0, .bool false]) W := by
  have e : (Instr.typeAssert (.iface u v) 20 109 true).run Tryz.prog W = (if u = 109 then (pure (Value.tuple #[v, .bool true]) : Sem Value) else (do pure (Value.tuple #[← zeroValue 109, .bool false]))).run Tryz.prog W := by kernel_rfl
  rw [e, if_neg h]
  exact zero109 W
theorem zero4 (W : World) : (do pure (Value.tuple #[← zeroValue 4, .bool false]) : Sem Value).run Tryz.prog W = .ok (.tuple #[.bool false, .bool false]) W := by kernel_rfl
theorem no4 (W : World) (u : TypeId) (v : Value) (h : u ≠ 4) : (Instr.typeAssert (.iface u v) 20 4 true).run Tryz.prog W = .ok (.tuple #[.bool false, .bool false]) W := by
  have e : (Instr.typeAssert (.iface u v) 20 4 true).run Tryz.prog W = (if u = 4 then (pure (Value.tuple #[v, .bool true]) : Sem Value) else (do pure (Value.tuple #[← zeroValue 4, .bool false]))).run Tryz.prog W := by kernel_rfl
  rw [e, if_neg h]
  exact zero4 W
theorem zero75 (W : World) : (do pure (Value.tuple #[← zeroValue 75, .bool false]) : Sem Value).run Tryz.prog W = .ok (.tuple #[.int .i16 0, .bool false]) W := by kernel_rfl
theorem yes75 (W : World) (v : Value) : (Instr.typeAssert (.iface 75 v) 20 75 true).run Tryz.prog W = .ok (.tuple #[v, .bool true]) W := by kernel_rfl
theorem no75 (W : World) (u : TypeId) (v : Value) (h : u ≠ 75) : (Instr.typeAssert (.iface u v) 20 75 true).run Tryz.prog W = .ok (.tuple #[.int .i16 0, .bool false]) W := by
  have e : (Instr.typeAssert (.iface u v) 20 75 true).run Tryz.prog W = (if u = 75 then (pure (Value.tuple #[v, .bool true]) : Sem Value) else (do pure (Value.tuple #[← zeroValue 75, .bool false]))).run Tryz.prog W := by kernel_rfl
  rw [e, if_neg h]
  exact zero75 W
theorem zero73 (W : World) : (do pure (Value.tuple #[← zeroValue 73, .bool false]) : Sem Value).run Tryz.prog W = .ok (.tuple #[.int .u16 0, .bool false]) W := by kernel_rfl
theorem yes73 (W : World) (v : Value) : (Instr.typeAssert (.iface 73 v) 20 73 true).run Tryz.prog W = .ok (.tuple #[v, .bool true]) W := by kernel_rfl
theorem no73 (W : World) (u : TypeId) (v : Value) (h : u ≠ 73) : (Instr.typeAssert (.iface u v) 20 73 true).run Tryz.prog W = .ok (.tuple #[.int .u16 0, .bool false]) W := by
  have e : (Instr.typeAssert (.iface u v) 20 73 true).run Tryz.prog W = (if u = 73 then (pure (Value.tuple #[v, .bool true]) : Sem Value) else (do pure (Value.tuple #[← zeroValue 73, .bool false]))).run Tryz.prog W := by kernel_rfl
  rw [e, if_neg h]
  exact zero73 W
theorem zero21 (W : World) : (do pure (Value.tuple #[← zeroValue 21, .bool false]) : Sem Value).run Tryz.prog W = .ok (.tuple #[.int .i32 0, .bool false]) W := by kernel_rfl
theorem yes21 (W : World) (v : Value) : (Instr.typeAssert (.iface 21 v) 20 21 true).run Tryz.prog W = .ok (.tuple #[v, .bool true]) W := by kernel_rfl
theorem no21 (W : World) (u : TypeId) (v : Value) (h : u ≠ 21) : (Instr.typeAssert (.iface u v) 20 21 true).run Tryz.prog W = .ok (.tuple #[.int .i32 0, .bool false]) W := by
  have e : (Instr.typeAssert (.iface u v) 20 21 true).run Tryz.prog W = (if u = 21 then (pure (Value.tuple #[v, .bool true]) : Sem Value) else (do pure (Value.tuple #[← zeroValue 21, .bool false]))).run Tryz.prog W := by kernel_rfl
  rw [e, if_neg h]
  exact zero21 W
theorem zero74 (W : World) : (do pure (Value.tuple #[← zeroValue 74, .bool false]) : Sem Value).run Tryz.prog W = .ok (.tuple #[.int .u32 0, .bool false]) W := by kernel_rfl
theorem yes74 (W : World) (v : Value) : (Instr.typeAssert (.iface 74 v) 20 74 true).run Tryz.prog W = .ok (.tuple #[v, .bool true]) W := by kernel_rfl
theorem no74 (W : World) (u : TypeId) (v : Value) (h : u ≠ 74) : (Instr.typeAssert (.iface u v) 20 74 true).run Tryz.prog W = .ok (.tuple #[.int .u32 0, .bool false]) W := by
  have e : (Instr.typeAssert (.iface u v) 20 74 true).run Tryz.prog W = (if u = 74 then (pure (Value.tuple #[v, .bool true]) : Sem Value) else (do pure (Value.tuple #[← zeroValue 74, .bool false]))).run Tryz.prog W := by kernel_rfl
  rw [e, if_neg h]
  exact zero74 W
theorem zero2 (W : World) : (do pure (Value.tuple #[← zeroValue 2, .bool false]) : Sem Value).run Tryz.prog W = .ok (.tuple #[.int .i64 0, .bool false]) W := by kernel_rfl
theorem yes2 (W : World) (v : Value) : (Instr.typeAssert (.iface 2 v) 20 2 true).run Tryz.prog W = .ok (.tuple #[v, .bool true]) W := by kernel_rfl
theorem no2 (W : World) (u : TypeId) (v : Value) (h : u ≠ 2) : (Instr.typeAssert (.iface u v) 20 2 true).run Tryz.prog W = .ok (.tuple #[.int .i64 0, .bool false]) W := by
  have e : (Instr.typeAssert (.iface u v) 20 2 true).run Tryz.prog W = (if u = 2 then (pure (Value.tuple #[v, .bool true]) : Sem Value) else (do pure (Value.tuple #[← zeroValue 2, .bool false]))).run Tryz.prog W := by kernel_rfl
  rw [e, if_neg h]
  exact zero2 W
theorem zero24 (W : World) : (do pure (Value.tuple #[← zeroValue 24, .bool false]) : Sem Value).run Tryz.prog W = .ok (.tuple #[.int .u64 0, .bool false]) W := by kernel_rfl
theorem yes24 (W : World) (v : Value) : (Instr.typeAssert (.iface 24 v) 20 24 true).run Tryz.prog W = .ok (.tuple #[v, .bool true]) W := by kernel_rfl
theorem no24 (W : World) (u : TypeId) (v : Value) (h : u ≠ 24) : (Instr.typeAssert (.iface u v) 20 24 true).run Tryz.prog W = .ok (.tuple #[.int .u64 0, .bool false]) W := by
  have e : (Instr.typeAssert (.iface u v) 20 24 true).run Tryz.prog W = (if u = 24 then (pure (Value.tuple #[v, .bool true]) : Sem Value) else (do pure (Value.tuple #[← zeroValue 24, .bool false]))).run Tryz.prog W := by kernel_rfl
  rw [e, if_neg h]
  exact zero24 W
theorem zero37 (W : World) : (do pure (Value.tuple #[← zeroValue 37, .bool false]) : Sem Value).run Tryz.prog W = .ok (.tuple #[.float .f64 0, .bool false]) W := by kernel_rfl
theorem yes37 (W : World) (v : Value) : (Instr.typeAssert (.iface 37 v) 20 37 true).run Tryz.prog W = .ok (.tuple #[v, .bool true]) W := by kernel_rfl
theorem no37 (W : World) (u : TypeId) (v : Value) (h : u ≠ 37) : (Instr.typeAssert (.iface u v) 20 37 true).run Tryz.prog W = .ok (.tuple #[.float .f64 0, .bool false]) W := by
  have e : (Instr.typeAssert (.iface u v) 20 37 true).run Tryz.prog W = (if u = 37 then (pure (Value.tuple #[v, .bool true]) : Sem Value) else (do pure (Value.tuple #[← zeroValue 37, .bool false]))).run Tryz.prog W := by kernel_rfl
  rw [e, if_neg h]
  exact zero37 W
theorem zero76 (W : World) : (do pure (Value.tuple #[← zeroValue 76, .bool false]) : Sem Value).run Tryz.prog W = .ok (.tuple #[.int .i32 0, .bool false]) W := by kernel_rfl
theorem no76 (W : World) (u : TypeId) (v : Value) (h : u ≠ 76) : (Instr.typeAssert (.iface u v) 20 76 true).run Tryz.prog W = .ok (.tuple #[.int .i32 0, .bool false]) W := by
  have e : (Instr.typeAssert (.iface u v) 20 76 true).run Tryz.prog W = (if u = 76 then (pure (Value.tuple #[v, .bool true]) : Sem Value) else (do pure (Value.tuple #[← zeroValue 76, .bool false]))).run Tryz.prog W := by kernel_rfl
  rw [e, if_neg h]
  exact zero76 W
theorem zero82 (W : World) : (do pure (Value.tuple #[← zeroValue 82, .bool false]) : Sem Value).run Tryz.prog W = .ok (.tuple #[.int .u32 0, .bool false]) W := by kernel_rfl
theorem no82 (W : World) (u : TypeId) (v : Value) (h : u ≠ 82) : (Instr.typeAssert (.iface u v) 20 82 true).run Tryz.prog W = .ok (.tuple #[.int .u32 0, .bool false]) W := by
  have e : (Instr.typeAssert (.iface u v) 20 82 true).run Tryz.prog W = (if u = 82 then (pure (Value.tuple #[v, .bool true]) : Sem Value) else (do pure (Value.tuple #[← zeroValue 82, .bool false]))).run Tryz.prog W := by kernel_rfl
  rw [e, if_neg h]
  exact zero82 W
set_option maxHeartbeats 1000000 in
set_option maxRecDepth 100000 in
theorem zt_y (n : Int) (w : World) : Calls Tryz.prog 40 #[.iface 5 (.int .u8 n)] w fun e w' => ∃ r : ByteArray, e = .returned (.string r) ∧ w = w' := by
  have hy := fun W => yes5 W (.int .u8 n)
  have hn107 := fun W => no107 W 5 (.int .u8 n) (by decide)
  have hn108 := fun W => no108 W 5 (.int .u8 n) (by decide)
  have hn109 := fun W => no109 W 5 (.int .u8 n) (by decide)
  have hn4 := fun W => no4 W 5 (.int .u8 n) (by decide)
  have hn75 := fun W => no75 W 5 (.int .u8 n) (by decide)
  have hn73 := fun W => no73 W 5 (.int .u8 n) (by decide)
  have hn21 := fun W => no21 W 5 (.int .u8 n) (by decide)
  have hn74 := fun W => no74 W 5 (.int .u8 n) (by decide)
  have hn2 := fun W => no2 W 5 (.int .u8 n) (by decide)
  have hn24 := fun W => no24 W 5 (.int .u8 n) (by decide)
  have hn37 := fun W => no37 W 5 (.int .u8 n) (by decide)
  have hn76 := fun W => no76 W 5 (.int .u8 n) (by decide)
  have hn82 := fun W => no82 W 5 (.int .u8 n) (by decide)
  go_enter Tryz.func40, Tryz.ntmps40
  go_wp2
  go_ret
  exact ⟨_, rfl, rfl⟩
set_option maxHeartbeats 1000000 in
set_option maxRecDepth 100000 in
theorem zv_y (n : Int) (w : World) : Calls Tryz.prog 30 #[.iface 5 (.int .u8 n)] w fun e w' => ∃ r : ByteArray, e = .returned (.agg #[.iface 5 (.int .u8 n), .string r]) ∧ w.alloc (Obj.cells #[.iface 5 (.int .u8 n), .string r] 79) = w' := by
  go_enter Tryz.func30, Tryz.ntmps30
  go_wp2_with (go_at_call 40; ((with_reducible refine (zt_y n _).mono ?_); rintro x w2 ⟨r, rfl, rfl⟩))
  refine bodyPost_ret (results_cell_row rfl _ _ w.heap.size 79 #[.iface 5 (.int .u8 n), .string r] (0, 0) _ rfl (alloc_top _ _) Tryz.underlying79 rfl (by kernel_rfl)) rfl ?_
  exact ⟨r, rfl, rfl⟩
set_option maxHeartbeats 1000000 in
set_option maxRecDepth 100000 in
theorem num_y (n : Int) (hm : IntKind.u64.wrap n = n) (r : ByteArray) (w : World) : Calls Tryz.prog 32 #[.agg #[.iface 5 (.int .u8 n), .string r]] w fun e w' => e = .returned (.int .u64 n) ∧ w.alloc (Obj.cells #[.iface 5 (.int .u8 n), .string r] 79) = w' := by
  have hy := fun W => yes5 W (.int .u8 n)
  have hn107 := fun W => no107 W 5 (.int .u8 n) (by decide)
  have hn108 := fun W => no108 W 5 (.int .u8 n) (by decide)
  have hn109 := fun W => no109 W 5 (.int .u8 n) (by decide)
  have hn4 := fun W => no4 W 5 (.int .u8 n) (by decide)
  have hn75 := fun W => no75 W 5 (.int .u8 n) (by decide)
  have hn73 := fun W => no73 W 5 (.int .u8 n) (by decide)
  have hn21 := fun W => no21 W 5 (.int .u8 n) (by decide)
  have hn74 := fun W => no74 W 5 (.int .u8 n) (by decide)
  have hn2 := fun W => no2 W 5 (.int .u8 n) (by decide)
  have hn24 := fun W => no24 W 5 (.int .u8 n) (by decide)
  have hn37 := fun W => no37 W 5 (.int .u8 n) (by decide)
  have hn76 := fun W => no76 W 5 (.int .u8 n) (by decide)
  have hn82 := fun W => no82 W 5 (.int .u8 n) (by decide)
  have HM := Aside0.mk hm
  clear hm
  go_enter Tryz.func32, Tryz.ntmps32
  go_wp2
  go_ret
  refine ⟨?_, rfl⟩
  first | rfl | (show Ending.returned (.int .u64 (IntKind.u64.wrap n)) = _; rw [HM.out])
set_option maxHeartbeats 1000000 in
set_option maxRecDepth 100000 in
theorem zt_n (n : Int) (w : World) : Calls Tryz.prog 40 #[.iface 75 (.int .i16 n)] w fun e w' => ∃ r : ByteArray, e = .returned (.string r) ∧ w = w' := by
  have hn5 := fun W => no5 W 75 (.int .i16 n) (by decide)
  have hn107 := fun W => no107 W 75 (.int .i16 n) (by decide)
  have hn108 := fun W => no108 W 75 (.int .i16 n) (by decide)
  have hn109 := fun W => no109 W 75 (.int .i16 n) (by decide)
  have hn4 := fun W => no4 W 75 (.int .i16 n) (by decide)
  have hy := fun W => yes75 W (.int .i16 n)
  have hn73 := fun W => no73 W 75 (.int .i16 n) (by decide)
  have hn21 := fun W => no21 W 75 (.int .i16 n) (by decide)
  have hn74 := fun W => no74 W 75 (.int .i16 n) (by decide)
  have hn2 := fun W => no2 W 75 (.int .i16 n) (by decide)
  have hn24 := fun W => no24 W 75 (.int .i16 n) (by decide)
  have hn37 := fun W => no37 W 75 (.int .i16 n) (by decide)
  have hn76 := fun W => no76 W 75 (.int .i16 n) (by decide)
  have hn82 := fun W => no82 W 75 (.int .i16 n) (by decide)
  go_enter Tryz.func40, Tryz.ntmps40
  go_wp2
  go_ret
  exact ⟨_, rfl, rfl⟩
set_option maxHeartbeats 1000000 in
set_option maxRecDepth 100000 in
theorem zv_n (n : Int) (w : World) : Calls Tryz.prog 30 #[.iface 75 (.int .i16 n)] w fun e w' => ∃ r : ByteArray, e = .returned (.agg #[.iface 75 (.int .i16 n), .string r]) ∧ w.alloc (Obj.cells #[.iface 75 (.int .i16 n), .string r] 79) = w' := by
  go_enter Tryz.func30, Tryz.ntmps30
  go_wp2_with (go_at_call 40; ((with_reducible refine (zt_n n _).mono ?_); rintro x w2 ⟨r, rfl, rfl⟩))
  refine bodyPost_ret (results_cell_row rfl _ _ w.heap.size 79 #[.iface 75 (.int .i16 n), .string r] (0, 0) _ rfl (alloc_top _ _) Tryz.underlying79 rfl (by kernel_rfl)) rfl ?_
  exact ⟨r, rfl, rfl⟩
set_option maxHeartbeats 1000000 in
set_option maxRecDepth 100000 in
theorem num_n (n : Int) (hm : wrap64 n = n) (r : ByteArray) (w : World) : Calls Tryz.prog 31 #[.agg #[.iface 75 (.int .i16 n), .string r]] w fun e w' => e = .returned (.int .i64 n) ∧ w.alloc (Obj.cells #[.iface 75 (.int .i16 n), .string r] 79) = w' := by
  have hn5 := fun W => no5 W 75 (.int .i16 n) (by decide)
  have hn107 := fun W => no107 W 75 (.int .i16 n) (by decide)
  have hn108 := fun W => no108 W 75 (.int .i16 n) (by decide)
  have hn109 := fun W => no109 W 75 (.int .i16 n) (by decide)
  have hn4 := fun W => no4 W 75 (.int .i16 n) (by decide)
  have hy := fun W => yes75 W (.int .i16 n)
  have hn73 := fun W => no73 W 75 (.int .i16 n) (by decide)
  have hn21 := fun W => no21 W 75 (.int .i16 n) (by decide)
  have hn74 := fun W => no74 W 75 (.int .i16 n) (by decide)
  have hn2 := fun W => no2 W 75 (.int .i16 n) (by decide)
  have hn24 := fun W => no24 W 75 (.int .i16 n) (by decide)
  have hn37 := fun W => no37 W 75 (.int .i16 n) (by decide)
  have hn76 := fun W => no76 W 75 (.int .i16 n) (by decide)
  have hn82 := fun W => no82 W 75 (.int .i16 n) (by decide)
  have HM := Aside0.mk hm
  clear hm
  go_enter Tryz.func31, Tryz.ntmps31
  go_wp2
  go_ret
  refine ⟨?_, rfl⟩
  first | rfl | (show Ending.returned (.int .i64 (wrap64 n)) = _; rw [HM.out])
set_option maxHeartbeats 1000000 in
set_option maxRecDepth 100000 in
theorem zt_q (n : Int) (w : World) : Calls Tryz.prog 40 #[.iface 73 (.int .u16 n)] w fun e w' => ∃ r : ByteArray, e = .returned (.string r) ∧ w = w' := by
  have hn5 := fun W => no5 W 73 (.int .u16 n) (by decide)
  have hn107 := fun W => no107 W 73 (.int .u16 n) (by decide)
  have hn108 := fun W => no108 W 73 (.int .u16 n) (by decide)
  have hn109 := fun W => no109 W 73 (.int .u16 n) (by decide)
  have hn4 := fun W => no4 W 73 (.int .u16 n) (by decide)
  have hn75 := fun W => no75 W 73 (.int .u16 n) (by decide)
  have hy := fun W => yes73 W (.int .u16 n)
  have hn21 := fun W => no21 W 73 (.int .u16 n) (by decide)
  have hn74 := fun W => no74 W 73 (.int .u16 n) (by decide)
  have hn2 := fun W => no2 W 73 (.int .u16 n) (by decide)
  have hn24 := fun W => no24 W 73 (.int .u16 n) (by decide)
  have hn37 := fun W => no37 W 73 (.int .u16 n) (by decide)
  have hn76 := fun W => no76 W 73 (.int .u16 n) (by decide)
  have hn82 := fun W => no82 W 73 (.int .u16 n) (by decide)
  go_enter Tryz.func40, Tryz.ntmps40
  go_wp2
  go_ret
  exact ⟨_, rfl, rfl⟩
set_option maxHeartbeats 1000000 in
set_option maxRecDepth 100000 in
theorem zv_q (n : Int) (w : World) : Calls Tryz.prog 30 #[.iface 73 (.int .u16 n)] w fun e w' => ∃ r : ByteArray, e = .returned (.agg #[.iface 73 (.int .u16 n), .string r]) ∧ w.alloc (Obj.cells #[.iface 73 (.int .u16 n), .string r] 79) = w' := by
  go_enter Tryz.func30, Tryz.ntmps30
  go_wp2_with (go_at_call 40; ((with_reducible refine (zt_q n _).mono ?_); rintro x w2 ⟨r, rfl, rfl⟩))
  refine bodyPost_ret (results_cell_row rfl _ _ w.heap.size 79 #[.iface 73 (.int .u16 n), .string r] (0, 0) _ rfl (alloc_top _ _) Tryz.underlying79 rfl (by kernel_rfl)) rfl ?_
  exact ⟨r, rfl, rfl⟩
set_option maxHeartbeats 1000000 in
set_option maxRecDepth 100000 in
theorem num_q (n : Int) (hm : IntKind.u64.wrap n = n) (r : ByteArray) (w : World) : Calls Tryz.prog 32 #[.agg #[.iface 73 (.int .u16 n), .string r]] w fun e w' => e = .returned (.int .u64 n) ∧ w.alloc (Obj.cells #[.iface 73 (.int .u16 n), .string r] 79) = w' := by
  have hn5 := fun W => no5 W 73 (.int .u16 n) (by decide)
  have hn107 := fun W => no107 W 73 (.int .u16 n) (by decide)
  have hn108 := fun W => no108 W 73 (.int .u16 n) (by decide)
  have hn109 := fun W => no109 W 73 (.int .u16 n) (by decide)
  have hn4 := fun W => no4 W 73 (.int .u16 n) (by decide)
  have hn75 := fun W => no75 W 73 (.int .u16 n) (by decide)
  have hy := fun W => yes73 W (.int .u16 n)
  have hn21 := fun W => no21 W 73 (.int .u16 n) (by decide)
  have hn74 := fun W => no74 W 73 (.int .u16 n) (by decide)
  have hn2 := fun W => no2 W 73 (.int .u16 n) (by decide)
  have hn24 := fun W => no24 W 73 (.int .u16 n) (by decide)
  have hn37 := fun W => no37 W 73 (.int .u16 n) (by decide)
  have hn76 := fun W => no76 W 73 (.int .u16 n) (by decide)
  have hn82 := fun W => no82 W 73 (.int .u16 n) (by decide)
  have HM := Aside0.mk hm
  clear hm
  go_enter Tryz.func32, Tryz.ntmps32
  go_wp2
  go_ret
  refine ⟨?_, rfl⟩
  first | rfl | (show Ending.returned (.int .u64 (IntKind.u64.wrap n)) = _; rw [HM.out])
set_option maxHeartbeats 1000000 in
set_option maxRecDepth 100000 in
theorem zt_i (n : Int) (w : World) : Calls Tryz.prog 40 #[.iface 21 (.int .i32 n)] w fun e w' => ∃ r : ByteArray, e = .returned (.string r) ∧ w = w' := by
  have hn5 := fun W => no5 W 21 (.int .i32 n) (by decide)
  have hn107 := fun W => no107 W 21 (.int .i32 n) (by decide)
  have hn108 := fun W => no108 W 21 (.int .i32 n) (by decide)
  have hn109 := fun W => no109 W 21 (.int .i32 n) (by decide)
  have hn4 := fun W => no4 W 21 (.int .i32 n) (by decide)
  have hn75 := fun W => no75 W 21 (.int .i32 n) (by decide)
  have hn73 := fun W => no73 W 21 (.int .i32 n) (by decide)
  have hy := fun W => yes21 W (.int .i32 n)
  have hn74 := fun W => no74 W 21 (.int .i32 n) (by decide)
  have hn2 := fun W => no2 W 21 (.int .i32 n) (by decide)
  have hn24 := fun W => no24 W 21 (.int .i32 n) (by decide)
  have hn37 := fun W => no37 W 21 (.int .i32 n) (by decide)
  have hn76 := fun W => no76 W 21 (.int .i32 n) (by decide)
  have hn82 := fun W => no82 W 21 (.int .i32 n) (by decide)
  go_enter Tryz.func40, Tryz.ntmps40
  go_wp2
  go_ret
  exact ⟨_, rfl, rfl⟩
set_option maxHeartbeats 1000000 in
set_option maxRecDepth 100000 in
theorem zv_i (n : Int) (w : World) : Calls Tryz.prog 30 #[.iface 21 (.int .i32 n)] w fun e w' => ∃ r : ByteArray, e = .returned (.agg #[.iface 21 (.int .i32 n), .string r]) ∧ w.alloc (Obj.cells #[.iface 21 (.int .i32 n), .string r] 79) = w' := by
  go_enter Tryz.func30, Tryz.ntmps30
  go_wp2_with (go_at_call 40; ((with_reducible refine (zt_i n _).mono ?_); rintro x w2 ⟨r, rfl, rfl⟩))
  refine bodyPost_ret (results_cell_row rfl _ _ w.heap.size 79 #[.iface 21 (.int .i32 n), .string r] (0, 0) _ rfl (alloc_top _ _) Tryz.underlying79 rfl (by kernel_rfl)) rfl ?_
  exact ⟨r, rfl, rfl⟩
set_option maxHeartbeats 1000000 in
set_option maxRecDepth 100000 in
theorem num_i (n : Int) (hm : wrap64 n = n) (r : ByteArray) (w : World) : Calls Tryz.prog 31 #[.agg #[.iface 21 (.int .i32 n), .string r]] w fun e w' => e = .returned (.int .i64 n) ∧ w.alloc (Obj.cells #[.iface 21 (.int .i32 n), .string r] 79) = w' := by
  have hn5 := fun W => no5 W 21 (.int .i32 n) (by decide)
  have hn107 := fun W => no107 W 21 (.int .i32 n) (by decide)
  have hn108 := fun W => no108 W 21 (.int .i32 n) (by decide)
  have hn109 := fun W => no109 W 21 (.int .i32 n) (by decide)
  have hn4 := fun W => no4 W 21 (.int .i32 n) (by decide)
  have hn75 := fun W => no75 W 21 (.int .i32 n) (by decide)
  have hn73 := fun W => no73 W 21 (.int .i32 n) (by decide)
  have hy := fun W => yes21 W (.int .i32 n)
  have hn74 := fun W => no74 W 21 (.int .i32 n) (by decide)
  have hn2 := fun W => no2 W 21 (.int .i32 n) (by decide)
  have hn24 := fun W => no24 W 21 (.int .i32 n) (by decide)
  have hn37 := fun W => no37 W 21 (.int .i32 n) (by decide)
  have hn76 := fun W => no76 W 21 (.int .i32 n) (by decide)
  have hn82 := fun W => no82 W 21 (.int .i32 n) (by decide)
  have HM := Aside0.mk hm
  clear hm
  go_enter Tryz.func31, Tryz.ntmps31
  go_wp2
  go_ret
  refine ⟨?_, rfl⟩
  first | rfl | (show Ending.returned (.int .i64 (wrap64 n)) = _; rw [HM.out])
set_option maxHeartbeats 1000000 in
set_option maxRecDepth 100000 in
theorem zt_u (n : Int) (w : World) : Calls Tryz.prog 40 #[.iface 74 (.int .u32 n)] w fun e w' => ∃ r : ByteArray, e = .returned (.string r) ∧ w = w' := by
  have hn5 := fun W => no5 W 74 (.int .u32 n) (by decide)
  have hn107 := fun W => no107 W 74 (.int .u32 n) (by decide)
  have hn108 := fun W => no108 W 74 (.int .u32 n) (by decide)
  have hn109 := fun W => no109 W 74 (.int .u32 n) (by decide)
  have hn4 := fun W => no4 W 74 (.int .u32 n) (by decide)
  have hn75 := fun W => no75 W 74 (.int .u32 n) (by decide)
  have hn73 := fun W => no73 W 74 (.int .u32 n) (by decide)
  have hn21 := fun W => no21 W 74 (.int .u32 n) (by decide)
  have hy := fun W => yes74 W (.int .u32 n)
  have hn2 := fun W => no2 W 74 (.int .u32 n) (by decide)
  have hn24 := fun W => no24 W 74 (.int .u32 n) (by decide)
  have hn37 := fun W => no37 W 74 (.int .u32 n) (by decide)
  have hn76 := fun W => no76 W 74 (.int .u32 n) (by decide)
  have hn82 := fun W => no82 W 74 (.int .u32 n) (by decide)
  go_enter Tryz.func40, Tryz.ntmps40
  go_wp2
  go_ret
  exact ⟨_, rfl, rfl⟩
set_option maxHeartbeats 1000000 in
set_option maxRecDepth 100000 in
theorem zv_u (n : Int) (w : World) : Calls Tryz.prog 30 #[.iface 74 (.int .u32 n)] w fun e w' => ∃ r : ByteArray, e = .returned (.agg #[.iface 74 (.int .u32 n), .string r]) ∧ w.alloc (Obj.cells #[.iface 74 (.int .u32 n), .string r] 79) = w' := by
  go_enter Tryz.func30, Tryz.ntmps30
  go_wp2_with (go_at_call 40; ((with_reducible refine (zt_u n _).mono ?_); rintro x w2 ⟨r, rfl, rfl⟩))
  refine bodyPost_ret (results_cell_row rfl _ _ w.heap.size 79 #[.iface 74 (.int .u32 n), .string r] (0, 0) _ rfl (alloc_top _ _) Tryz.underlying79 rfl (by kernel_rfl)) rfl ?_
  exact ⟨r, rfl, rfl⟩
set_option maxHeartbeats 1000000 in
set_option maxRecDepth 100000 in
theorem num_u (n : Int) (hm : IntKind.u64.wrap n = n) (r : ByteArray) (w : World) : Calls Tryz.prog 32 #[.agg #[.iface 74 (.int .u32 n), .string r]] w fun e w' => e = .returned (.int .u64 n) ∧ w.alloc (Obj.cells #[.iface 74 (.int .u32 n), .string r] 79) = w' := by
  have hn5 := fun W => no5 W 74 (.int .u32 n) (by decide)
  have hn107 := fun W => no107 W 74 (.int .u32 n) (by decide)
  have hn108 := fun W => no108 W 74 (.int .u32 n) (by decide)
  have hn109 := fun W => no109 W 74 (.int .u32 n) (by decide)
  have hn4 := fun W => no4 W 74 (.int .u32 n) (by decide)
  have hn75 := fun W => no75 W 74 (.int .u32 n) (by decide)
  have hn73 := fun W => no73 W 74 (.int .u32 n) (by decide)
  have hn21 := fun W => no21 W 74 (.int .u32 n) (by decide)
  have hy := fun W => yes74 W (.int .u32 n)
  have hn2 := fun W => no2 W 74 (.int .u32 n) (by decide)
  have hn24 := fun W => no24 W 74 (.int .u32 n) (by decide)
  have hn37 := fun W => no37 W 74 (.int .u32 n) (by decide)
  have hn76 := fun W => no76 W 74 (.int .u32 n) (by decide)
  have hn82 := fun W => no82 W 74 (.int .u32 n) (by decide)
  have HM := Aside0.mk hm
  clear hm
  go_enter Tryz.func32, Tryz.ntmps32
  go_wp2
  go_ret
  refine ⟨?_, rfl⟩
  first | rfl | (show Ending.returned (.int .u64 (IntKind.u64.wrap n)) = _; rw [HM.out])
set_option maxHeartbeats 1000000 in
set_option maxRecDepth 100000 in
theorem zt_x (n : Int) (w : World) : Calls Tryz.prog 40 #[.iface 2 (.int .i64 n)] w fun e w' => ∃ r : ByteArray, e = .returned (.string r) ∧ w = w' := by
  have hn5 := fun W => no5 W 2 (.int .i64 n) (by decide)
  have hn107 := fun W => no107 W 2 (.int .i64 n) (by decide)
  have hn108 := fun W => no108 W 2 (.int .i64 n) (by decide)
  have hn109 := fun W => no109 W 2 (.int .i64 n) (by decide)
  have hn4 := fun W => no4 W 2 (.int .i64 n) (by decide)
  have hn75 := fun W => no75 W 2 (.int .i64 n) (by decide)
  have hn73 := fun W => no73 W 2 (.int .i64 n) (by decide)
  have hn21 := fun W => no21 W 2 (.int .i64 n) (by decide)
  have hn74 := fun W => no74 W 2 (.int .i64 n) (by decide)
  have hy := fun W => yes2 W (.int .i64 n)
  have hn24 := fun W => no24 W 2 (.int .i64 n) (by decide)
  have hn37 := fun W => no37 W 2 (.int .i64 n) (by decide)
  have hn76 := fun W => no76 W 2 (.int .i64 n) (by decide)
  have hn82 := fun W => no82 W 2 (.int .i64 n) (by decide)
  go_enter Tryz.func40, Tryz.ntmps40
  go_wp2
  go_ret
  exact ⟨_, rfl, rfl⟩
set_option maxHeartbeats 1000000 in
set_option maxRecDepth 100000 in
theorem zv_x (n : Int) (w : World) : Calls Tryz.prog 30 #[.iface 2 (.int .i64 n)] w fun e w' => ∃ r : ByteArray, e = .returned (.agg #[.iface 2 (.int .i64 n), .string r]) ∧ w.alloc (Obj.cells #[.iface 2 (.int .i64 n), .string r] 79) = w' := by
  go_enter Tryz.func30, Tryz.ntmps30
  go_wp2_with (go_at_call 40; ((with_reducible refine (zt_x n _).mono ?_); rintro x w2 ⟨r, rfl, rfl⟩))
  refine bodyPost_ret (results_cell_row rfl _ _ w.heap.size 79 #[.iface 2 (.int .i64 n), .string r] (0, 0) _ rfl (alloc_top _ _) Tryz.underlying79 rfl (by kernel_rfl)) rfl ?_
  exact ⟨r, rfl, rfl⟩
set_option maxHeartbeats 1000000 in
set_option maxRecDepth 100000 in
theorem num_x (n : Int) (hm : wrap64 n = n) (r : ByteArray) (w : World) : Calls Tryz.prog 31 #[.agg #[.iface 2 (.int .i64 n), .string r]] w fun e w' => e = .returned (.int .i64 n) ∧ w.alloc (Obj.cells #[.iface 2 (.int .i64 n), .string r] 79) = w' := by
  have hn5 := fun W => no5 W 2 (.int .i64 n) (by decide)
  have hn107 := fun W => no107 W 2 (.int .i64 n) (by decide)
  have hn108 := fun W => no108 W 2 (.int .i64 n) (by decide)
  have hn109 := fun W => no109 W 2 (.int .i64 n) (by decide)
  have hn4 := fun W => no4 W 2 (.int .i64 n) (by decide)
  have hn75 := fun W => no75 W 2 (.int .i64 n) (by decide)
  have hn73 := fun W => no73 W 2 (.int .i64 n) (by decide)
  have hn21 := fun W => no21 W 2 (.int .i64 n) (by decide)
  have hn74 := fun W => no74 W 2 (.int .i64 n) (by decide)
  have hy := fun W => yes2 W (.int .i64 n)
  have hn24 := fun W => no24 W 2 (.int .i64 n) (by decide)
  have hn37 := fun W => no37 W 2 (.int .i64 n) (by decide)
  have hn76 := fun W => no76 W 2 (.int .i64 n) (by decide)
  have hn82 := fun W => no82 W 2 (.int .i64 n) (by decide)
  have HM := Aside0.mk hm
  clear hm
  go_enter Tryz.func31, Tryz.ntmps31
  go_wp2
  go_ret
  refine ⟨?_, rfl⟩
  first | rfl | (show Ending.returned (.int .i64 (wrap64 n)) = _; rw [HM.out])
set_option maxHeartbeats 1000000 in
set_option maxRecDepth 100000 in
theorem zt_t (n : Int) (w : World) : Calls Tryz.prog 40 #[.iface 24 (.int .u64 n)] w fun e w' => ∃ r : ByteArray, e = .returned (.string r) ∧ w = w' := by
  have hn5 := fun W => no5 W 24 (.int .u64 n) (by decide)
  have hn107 := fun W => no107 W 24 (.int .u64 n) (by decide)
  have hn108 := fun W => no108 W 24 (.int .u64 n) (by decide)
  have hn109 := fun W => no109 W 24 (.int .u64 n) (by decide)
  have hn4 := fun W => no4 W 24 (.int .u64 n) (by decide)
  have hn75 := fun W => no75 W 24 (.int .u64 n) (by decide)
  have hn73 := fun W => no73 W 24 (.int .u64 n) (by decide)
  have hn21 := fun W => no21 W 24 (.int .u64 n) (by decide)
  have hn74 := fun W => no74 W 24 (.int .u64 n) (by decide)
  have hn2 := fun W => no2 W 24 (.int .u64 n) (by decide)
  have hy := fun W => yes24 W (.int .u64 n)
  have hn37 := fun W => no37 W 24 (.int .u64 n) (by decide)
  have hn76 := fun W => no76 W 24 (.int .u64 n) (by decide)
  have hn82 := fun W => no82 W 24 (.int .u64 n) (by decide)
  go_enter Tryz.func40, Tryz.ntmps40
  go_wp2
  go_ret
  exact ⟨_, rfl, rfl⟩
set_option maxHeartbeats 1000000 in
set_option maxRecDepth 100000 in
theorem zv_t (n : Int) (w : World) : Calls Tryz.prog 30 #[.iface 24 (.int .u64 n)] w fun e w' => ∃ r : ByteArray, e = .returned (.agg #[.iface 24 (.int .u64 n), .string r]) ∧ w.alloc (Obj.cells #[.iface 24 (.int .u64 n), .string r] 79) = w' := by
  go_enter Tryz.func30, Tryz.ntmps30
  go_wp2_with (go_at_call 40; ((with_reducible refine (zt_t n _).mono ?_); rintro x w2 ⟨r, rfl, rfl⟩))
  refine bodyPost_ret (results_cell_row rfl _ _ w.heap.size 79 #[.iface 24 (.int .u64 n), .string r] (0, 0) _ rfl (alloc_top _ _) Tryz.underlying79 rfl (by kernel_rfl)) rfl ?_
  exact ⟨r, rfl, rfl⟩
set_option maxHeartbeats 1000000 in
set_option maxRecDepth 100000 in
theorem num_t (n : Int) (hm : IntKind.u64.wrap n = n) (r : ByteArray) (w : World) : Calls Tryz.prog 32 #[.agg #[.iface 24 (.int .u64 n), .string r]] w fun e w' => e = .returned (.int .u64 n) ∧ w.alloc (Obj.cells #[.iface 24 (.int .u64 n), .string r] 79) = w' := by
  have hn5 := fun W => no5 W 24 (.int .u64 n) (by decide)
  have hn107 := fun W => no107 W 24 (.int .u64 n) (by decide)
  have hn108 := fun W => no108 W 24 (.int .u64 n) (by decide)
  have hn109 := fun W => no109 W 24 (.int .u64 n) (by decide)
  have hn4 := fun W => no4 W 24 (.int .u64 n) (by decide)
  have hn75 := fun W => no75 W 24 (.int .u64 n) (by decide)
  have hn73 := fun W => no73 W 24 (.int .u64 n) (by decide)
  have hn21 := fun W => no21 W 24 (.int .u64 n) (by decide)
  have hn74 := fun W => no74 W 24 (.int .u64 n) (by decide)
  have hn2 := fun W => no2 W 24 (.int .u64 n) (by decide)
  have hy := fun W => yes24 W (.int .u64 n)
  have hn37 := fun W => no37 W 24 (.int .u64 n) (by decide)
  have hn76 := fun W => no76 W 24 (.int .u64 n) (by decide)
  have hn82 := fun W => no82 W 24 (.int .u64 n) (by decide)
  have HM := Aside0.mk hm
  clear hm
  go_enter Tryz.func32, Tryz.ntmps32
  go_wp2
  go_ret
  refine ⟨?_, rfl⟩
  first | rfl | (show Ending.returned (.int .u64 (IntKind.u64.wrap n)) = _; rw [HM.out])
end Go.Proofs.YtogikhohkbcccaaGreatDoor.To

namespace Go.Proofs.YtogikhohkbcccaaGreatDoor.To
set_option linter.unusedVariables false
set_option linter.unusedSimpArgs false
open Go.RowKit Go.Proofs.YtogikhohkbcccaaGreatDoorW.PrintWords Go.Proofs.YtogikhohkbcccaaGreatDoorW.PrintLast Go.Proofs.YtogikhohkbcccaaGreatDoorW.PrintMore Go.Proofs.YtogikhohkbcccaaGreatDoor.De

set_option maxHeartbeats 4000000 in
set_option maxRecDepth 100000 in
theorem do_y (n : Int) (hm : IntKind.u64.wrap n = n) (w : World) : Calls Tryz.prog 21 #[.iface 5 (.int .u8 n), .string ⟨#[121]⟩] w fun e w' => e = .returned (.agg #[.int .u8 121, .int .u64 (n), .string ⟨#[]⟩, .slice none 0 0]) ∧ Below w.heap.size w w' := by
  have hy := fun W => yes5 W (.int .u8 n)
  have hn4 := fun W => no4 W 5 (.int .u8 n) (by decide)
  have hn75 := fun W => no75 W 5 (.int .u8 n) (by decide)
  have hn73 := fun W => no73 W 5 (.int .u8 n) (by decide)
  have hn21 := fun W => no21 W 5 (.int .u8 n) (by decide)
  have hn74 := fun W => no74 W 5 (.int .u8 n) (by decide)
  have hn2 := fun W => no2 W 5 (.int .u8 n) (by decide)
  have hn24 := fun W => no24 W 5 (.int .u8 n) (by decide)
  have hn37 := fun W => no37 W 5 (.int .u8 n) (by decide)
  have hn76 := fun W => no76 W 5 (.int .u8 n) (by decide)
  have hn82 := fun W => no82 W 5 (.int .u8 n) (by decide)
  have HM := Aside0.mk hm
  clear hm
  go_enter Tryz.func21, Tryz.ntmps21
  go_wp2_with (first | (go_at_call 30; ((with_reducible refine (zv_y n _).mono ?_); rintro x w2 ⟨r, rfl, rfl⟩)) | (go_at_call 32; ((with_reducible refine (num_y n HM.out _ _).mono ?_); rintro x w2 ⟨rfl, rfl⟩)))
  refine bodyPost_ret (results_cell_row rfl _ _ w.heap.size 49 #[.int .u8 121, .int .u64 (n), .string ⟨#[]⟩, .slice none 0 0] (0, 0) _ rfl (blk_alloc (blk_alloc (blk_alloc (alloc_top _ _) _) _) _) Tryz.underlying49 rfl (by kernel_rfl)) rfl ?_
  exact ⟨rfl, below_alloc (below_alloc (below_alloc (below_alloc (Below.refl _ _) _) _) _) _⟩
set_option maxHeartbeats 4000000 in
set_option maxRecDepth 100000 in
theorem do_n (n : Int) (hm : wrap64 n = n) (w : World) : Calls Tryz.prog 21 #[.iface 75 (.int .i16 n), .string ⟨#[110]⟩] w fun e w' => e = .returned (.agg #[.int .u8 110, .int .u64 (IntKind.u64.wrap n), .string ⟨#[]⟩, .slice none 0 0]) ∧ Below w.heap.size w w' := by
  have hn5 := fun W => no5 W 75 (.int .i16 n) (by decide)
  have hn4 := fun W => no4 W 75 (.int .i16 n) (by decide)
  have hy := fun W => yes75 W (.int .i16 n)
  have hn73 := fun W => no73 W 75 (.int .i16 n) (by decide)
  have hn21 := fun W => no21 W 75 (.int .i16 n) (by decide)
  have hn74 := fun W => no74 W 75 (.int .i16 n) (by decide)
  have hn2 := fun W => no2 W 75 (.int .i16 n) (by decide)
  have hn24 := fun W => no24 W 75 (.int .i16 n) (by decide)
  have hn37 := fun W => no37 W 75 (.int .i16 n) (by decide)
  have hn76 := fun W => no76 W 75 (.int .i16 n) (by decide)
  have hn82 := fun W => no82 W 75 (.int .i16 n) (by decide)
  have HM := Aside0.mk hm
  clear hm
  go_enter Tryz.func21, Tryz.ntmps21
  go_wp2_with (first | (go_at_call 30; ((with_reducible refine (zv_n n _).mono ?_); rintro x w2 ⟨r, rfl, rfl⟩)) | (go_at_call 31; ((with_reducible refine (num_n n HM.out _ _).mono ?_); rintro x w2 ⟨rfl, rfl⟩)))
  refine bodyPost_ret (results_cell_row rfl _ _ w.heap.size 49 #[.int .u8 110, .int .u64 (IntKind.u64.wrap n), .string ⟨#[]⟩, .slice none 0 0] (0, 0) _ rfl (blk_alloc (blk_alloc (blk_alloc (alloc_top _ _) _) _) _) Tryz.underlying49 rfl (by kernel_rfl)) rfl ?_
  exact ⟨rfl, below_alloc (below_alloc (below_alloc (below_alloc (Below.refl _ _) _) _) _) _⟩
set_option maxHeartbeats 4000000 in
set_option maxRecDepth 100000 in
theorem do_q (n : Int) (hm : IntKind.u64.wrap n = n) (w : World) : Calls Tryz.prog 21 #[.iface 73 (.int .u16 n), .string ⟨#[113]⟩] w fun e w' => e = .returned (.agg #[.int .u8 113, .int .u64 (n), .string ⟨#[]⟩, .slice none 0 0]) ∧ Below w.heap.size w w' := by
  have hn5 := fun W => no5 W 73 (.int .u16 n) (by decide)
  have hn4 := fun W => no4 W 73 (.int .u16 n) (by decide)
  have hn75 := fun W => no75 W 73 (.int .u16 n) (by decide)
  have hy := fun W => yes73 W (.int .u16 n)
  have hn21 := fun W => no21 W 73 (.int .u16 n) (by decide)
  have hn74 := fun W => no74 W 73 (.int .u16 n) (by decide)
  have hn2 := fun W => no2 W 73 (.int .u16 n) (by decide)
  have hn24 := fun W => no24 W 73 (.int .u16 n) (by decide)
  have hn37 := fun W => no37 W 73 (.int .u16 n) (by decide)
  have hn76 := fun W => no76 W 73 (.int .u16 n) (by decide)
  have hn82 := fun W => no82 W 73 (.int .u16 n) (by decide)
  have HM := Aside0.mk hm
  clear hm
  go_enter Tryz.func21, Tryz.ntmps21
  go_wp2_with (first | (go_at_call 30; ((with_reducible refine (zv_q n _).mono ?_); rintro x w2 ⟨r, rfl, rfl⟩)) | (go_at_call 32; ((with_reducible refine (num_q n HM.out _ _).mono ?_); rintro x w2 ⟨rfl, rfl⟩)))
  refine bodyPost_ret (results_cell_row rfl _ _ w.heap.size 49 #[.int .u8 113, .int .u64 (n), .string ⟨#[]⟩, .slice none 0 0] (0, 0) _ rfl (blk_alloc (blk_alloc (blk_alloc (alloc_top _ _) _) _) _) Tryz.underlying49 rfl (by kernel_rfl)) rfl ?_
  exact ⟨rfl, below_alloc (below_alloc (below_alloc (below_alloc (Below.refl _ _) _) _) _) _⟩
set_option maxHeartbeats 4000000 in
set_option maxRecDepth 100000 in
theorem do_i (n : Int) (hm : wrap64 n = n) (w : World) : Calls Tryz.prog 21 #[.iface 21 (.int .i32 n), .string ⟨#[105]⟩] w fun e w' => e = .returned (.agg #[.int .u8 105, .int .u64 (IntKind.u64.wrap n), .string ⟨#[]⟩, .slice none 0 0]) ∧ Below w.heap.size w w' := by
  have hn5 := fun W => no5 W 21 (.int .i32 n) (by decide)
  have hn4 := fun W => no4 W 21 (.int .i32 n) (by decide)
  have hn75 := fun W => no75 W 21 (.int .i32 n) (by decide)
  have hn73 := fun W => no73 W 21 (.int .i32 n) (by decide)
  have hy := fun W => yes21 W (.int .i32 n)
  have hn74 := fun W => no74 W 21 (.int .i32 n) (by decide)
  have hn2 := fun W => no2 W 21 (.int .i32 n) (by decide)
  have hn24 := fun W => no24 W 21 (.int .i32 n) (by decide)
  have hn37 := fun W => no37 W 21 (.int .i32 n) (by decide)
  have hn76 := fun W => no76 W 21 (.int .i32 n) (by decide)
  have hn82 := fun W => no82 W 21 (.int .i32 n) (by decide)
  have HM := Aside0.mk hm
  clear hm
  go_enter Tryz.func21, Tryz.ntmps21
  go_wp2_with (first | (go_at_call 30; ((with_reducible refine (zv_i n _).mono ?_); rintro x w2 ⟨r, rfl, rfl⟩)) | (go_at_call 31; ((with_reducible refine (num_i n HM.out _ _).mono ?_); rintro x w2 ⟨rfl, rfl⟩)))
  refine bodyPost_ret (results_cell_row rfl _ _ w.heap.size 49 #[.int .u8 105, .int .u64 (IntKind.u64.wrap n), .string ⟨#[]⟩, .slice none 0 0] (0, 0) _ rfl (blk_alloc (blk_alloc (blk_alloc (alloc_top _ _) _) _) _) Tryz.underlying49 rfl (by kernel_rfl)) rfl ?_
  exact ⟨rfl, below_alloc (below_alloc (below_alloc (below_alloc (Below.refl _ _) _) _) _) _⟩
set_option maxHeartbeats 4000000 in
set_option maxRecDepth 100000 in
theorem do_u (n : Int) (hm : IntKind.u64.wrap n = n) (w : World) : Calls Tryz.prog 21 #[.iface 74 (.int .u32 n), .string ⟨#[117]⟩] w fun e w' => e = .returned (.agg #[.int .u8 117, .int .u64 (n), .string ⟨#[]⟩, .slice none 0 0]) ∧ Below w.heap.size w w' := by
  have hn5 := fun W => no5 W 74 (.int .u32 n) (by decide)
  have hn4 := fun W => no4 W 74 (.int .u32 n) (by decide)
  have hn75 := fun W => no75 W 74 (.int .u32 n) (by decide)
  have hn73 := fun W => no73 W 74 (.int .u32 n) (by decide)
  have hn21 := fun W => no21 W 74 (.int .u32 n) (by decide)
  have hy := fun W => yes74 W (.int .u32 n)
  have hn2 := fun W => no2 W 74 (.int .u32 n) (by decide)
  have hn24 := fun W => no24 W 74 (.int .u32 n) (by decide)
  have hn37 := fun W => no37 W 74 (.int .u32 n) (by decide)
  have hn76 := fun W => no76 W 74 (.int .u32 n) (by decide)
  have hn82 := fun W => no82 W 74 (.int .u32 n) (by decide)
  have HM := Aside0.mk hm
  clear hm
  go_enter Tryz.func21, Tryz.ntmps21
  go_wp2_with (first | (go_at_call 30; ((with_reducible refine (zv_u n _).mono ?_); rintro x w2 ⟨r, rfl, rfl⟩)) | (go_at_call 32; ((with_reducible refine (num_u n HM.out _ _).mono ?_); rintro x w2 ⟨rfl, rfl⟩)))
  refine bodyPost_ret (results_cell_row rfl _ _ w.heap.size 49 #[.int .u8 117, .int .u64 (n), .string ⟨#[]⟩, .slice none 0 0] (0, 0) _ rfl (blk_alloc (blk_alloc (blk_alloc (alloc_top _ _) _) _) _) Tryz.underlying49 rfl (by kernel_rfl)) rfl ?_
  exact ⟨rfl, below_alloc (below_alloc (below_alloc (below_alloc (Below.refl _ _) _) _) _) _⟩
set_option maxHeartbeats 4000000 in
set_option maxRecDepth 100000 in
theorem do_x (n : Int) (hm : wrap64 n = n) (w : World) : Calls Tryz.prog 21 #[.iface 2 (.int .i64 n), .string ⟨#[120]⟩] w fun e w' => e = .returned (.agg #[.int .u8 120, .int .u64 (IntKind.u64.wrap n), .string ⟨#[]⟩, .slice none 0 0]) ∧ Below w.heap.size w w' := by
  have hn5 := fun W => no5 W 2 (.int .i64 n) (by decide)
  have hn4 := fun W => no4 W 2 (.int .i64 n) (by decide)
  have hn75 := fun W => no75 W 2 (.int .i64 n) (by decide)
  have hn73 := fun W => no73 W 2 (.int .i64 n) (by decide)
  have hn21 := fun W => no21 W 2 (.int .i64 n) (by decide)
  have hn74 := fun W => no74 W 2 (.int .i64 n) (by decide)
  have hy := fun W => yes2 W (.int .i64 n)
  have hn24 := fun W => no24 W 2 (.int .i64 n) (by decide)
  have hn37 := fun W => no37 W 2 (.int .i64 n) (by decide)
  have hn76 := fun W => no76 W 2 (.int .i64 n) (by decide)
  have hn82 := fun W => no82 W 2 (.int .i64 n) (by decide)
  have HM := Aside0.mk hm
  clear hm
  go_enter Tryz.func21, Tryz.ntmps21
  go_wp2_with (first | (go_at_call 30; ((with_reducible refine (zv_x n _).mono ?_); rintro x w2 ⟨r, rfl, rfl⟩)) | (go_at_call 31; ((with_reducible refine (num_x n HM.out _ _).mono ?_); rintro x w2 ⟨rfl, rfl⟩)))
  refine bodyPost_ret (results_cell_row rfl _ _ w.heap.size 49 #[.int .u8 120, .int .u64 (IntKind.u64.wrap n), .string ⟨#[]⟩, .slice none 0 0] (0, 0) _ rfl (blk_alloc (blk_alloc (blk_alloc (alloc_top _ _) _) _) _) Tryz.underlying49 rfl (by kernel_rfl)) rfl ?_
  exact ⟨rfl, below_alloc (below_alloc (below_alloc (below_alloc (Below.refl _ _) _) _) _) _⟩
set_option maxHeartbeats 4000000 in
set_option maxRecDepth 100000 in
theorem do_t (n : Int) (hm : IntKind.u64.wrap n = n) (w : World) : Calls Tryz.prog 21 #[.iface 24 (.int .u64 n), .string ⟨#[116]⟩] w fun e w' => e = .returned (.agg #[.int .u8 116, .int .u64 (n), .string ⟨#[]⟩, .slice none 0 0]) ∧ Below w.heap.size w w' := by
  have hn5 := fun W => no5 W 24 (.int .u64 n) (by decide)
  have hn4 := fun W => no4 W 24 (.int .u64 n) (by decide)
  have hn75 := fun W => no75 W 24 (.int .u64 n) (by decide)
  have hn73 := fun W => no73 W 24 (.int .u64 n) (by decide)
  have hn21 := fun W => no21 W 24 (.int .u64 n) (by decide)
  have hn74 := fun W => no74 W 24 (.int .u64 n) (by decide)
  have hn2 := fun W => no2 W 24 (.int .u64 n) (by decide)
  have hy := fun W => yes24 W (.int .u64 n)
  have hn37 := fun W => no37 W 24 (.int .u64 n) (by decide)
  have hn76 := fun W => no76 W 24 (.int .u64 n) (by decide)
  have hn82 := fun W => no82 W 24 (.int .u64 n) (by decide)
  have HM := Aside0.mk hm
  clear hm
  go_enter Tryz.func21, Tryz.ntmps21
  go_wp2_with (first | (go_at_call 30; ((with_reducible refine (zv_t n _).mono ?_); rintro x w2 ⟨r, rfl, rfl⟩)) | (go_at_call 32; ((with_reducible refine (num_t n HM.out _ _).mono ?_); rintro x w2 ⟨rfl, rfl⟩)))
  refine bodyPost_ret (results_cell_row rfl _ _ w.heap.size 49 #[.int .u8 116, .int .u64 (n), .string ⟨#[]⟩, .slice none 0 0] (0, 0) _ rfl (blk_alloc (blk_alloc (blk_alloc (alloc_top _ _) _) _) _) Tryz.underlying49 rfl (by kernel_rfl)) rfl ?_
  exact ⟨rfl, below_alloc (below_alloc (below_alloc (below_alloc (Below.refl _ _) _) _) _) _⟩
theorem bits_run (n : Nat) (w : World) : (callFunc 11 #[.float .f64 n]).run Tryz.prog w = .ok (.value (.int .u64 n)) w := by
  rw [run_callFunc_extern (fn := Tryz.f11) (e := Extern.MathFloatBits.float64bits) (by kernel_rfl) (by kernel_rfl) (by kernel_rfl) (by kernel_rfl) (by kernel_rfl)]
  rfl
set_option maxHeartbeats 4000000 in
set_option maxRecDepth 100000 in
theorem do_d (n : Nat) (w : World) : Calls Tryz.prog 21 #[.iface 37 (.float .f64 n), .string ⟨#[100]⟩] w fun e w' => e = .returned (.agg #[.int .u8 100, .int .u64 n, .string ⟨#[]⟩, .slice none 0 0]) ∧ Below w.heap.size w w' := by
  have hn5 := fun W => no5 W 37 (.float .f64 n) (by decide)
  have hn4 := fun W => no4 W 37 (.float .f64 n) (by decide)
  have hn75 := fun W => no75 W 37 (.float .f64 n) (by decide)
  have hn73 := fun W => no73 W 37 (.float .f64 n) (by decide)
  have hn21 := fun W => no21 W 37 (.float .f64 n) (by decide)
  have hn74 := fun W => no74 W 37 (.float .f64 n) (by decide)
  have hn2 := fun W => no2 W 37 (.float .f64 n) (by decide)
  have hn24 := fun W => no24 W 37 (.float .f64 n) (by decide)
  have hy := fun W => yes37 W (.float .f64 n)
  have hn76 := fun W => no76 W 37 (.float .f64 n) (by decide)
  have hn82 := fun W => no82 W 37 (.float .f64 n) (by decide)
  have hd := bits_run
  go_enter Tryz.func21, Tryz.ntmps21
  go_wp2
  refine bodyPost_ret (results_cell_row rfl _ _ w.heap.size 49 #[.int .u8 100, .int .u64 n, .string ⟨#[]⟩, .slice none 0 0] (0, 0) _ rfl (blk_alloc (alloc_top _ _) _) Tryz.underlying49 rfl (by kernel_rfl)) rfl ?_
  exact ⟨rfl, below_alloc (below_alloc (Below.refl _ _) _) _⟩
end Go.Proofs.YtogikhohkbcccaaGreatDoor.To
