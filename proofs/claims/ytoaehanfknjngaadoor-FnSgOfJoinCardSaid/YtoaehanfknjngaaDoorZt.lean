import Derived.Test.YtoaehanfknjngaaDoorBx
import Derived.Deep.RegionHeld3
import Derived.BigQuiet
namespace Go.Proofs.YtoaehanfknjngaaDoor.Zt
set_option linter.unusedVariables false
set_option linter.unusedSimpArgs false
open Go.RowKit Go.Proofs.YtoaehanfknjngaaDoor.Ext Go.Proofs.YtoaehanfknjngaaDoor.L Go.Proofs.YtoaehanfknjngaaDoorW.PrintWords Go.Proofs.YtoaehanfknjngaaDoorW.PrintLast Go.Proofs.YtoaehanfknjngaaDoorW.PrintMore
open Go.Proofs.YtoaehanfknjngaaDoor.Com Go.Proofs.YtoaehanfknjngaaDoor.Tree Go.Proofs.YtoaehanfknjngaaDoor.Sg Go.Proofs.YtoaehanfknjngaaDoor.Dt Go.Proofs.YtoaehanfknjngaaDoor.Bx

theorem zero5 (W : World) : (do pure (Value.tuple #[← zeroValue 5, .bool false]) : Sem Value).run Tryd.prog W = .ok (.tuple #[.int .u8 0, .bool false]) W := by kernel_rfl
theorem yes5 (W : World) (v : Value) : (Instr.typeAssert (.iface 5 v) 20 5 true).run Tryd.prog W = .ok (.tuple #[v, .bool true]) W := by kernel_rfl
theorem no5 (W : World) (u : TypeId) (v : Value) (h : u ≠ 5) : (Instr.typeAssert (.iface u v) 20 5 true).run Tryd.prog W = .ok (.tuple #[.int .u8 0, .bool false]) W := by
 have e : (Instr.typeAssert (.iface u v) 20 5 true).run Tryd.prog W = (if u = 5 then (pure (Value.tuple #[v, .bool true]) : Sem Value) else (do pure (Value.tuple #[← zeroValue 5, .bool false]))).run Tryd.prog W := by kernel_rfl
 rw [e, if_neg h]
 exact zero5 W
theorem zero80 (W : World) : (do pure (Value.tuple #[← zeroValue 80, .bool false]) : Sem Value).run Tryd.prog W = .ok (.tuple #[.int .u8 0, .bool false]) W := by kernel_rfl
theorem no80 (W : World) (u : TypeId) (v : Value) (h : u ≠ 80) : (Instr.typeAssert (.iface u v) 20 80 true).run Tryd.prog W = .ok (.tuple #[.int .u8 0, .bool false]) W := by
 have e : (Instr.typeAssert (.iface u v) 20 80 true).run Tryd.prog W = (if u = 80 then (pure (Value.tuple #[v, .bool true]) : Sem Value) else (do pure (Value.tuple #[← zeroValue 80, .bool false]))).run Tryd.prog W := by kernel_rfl
 rw [e, if_neg h]
 exact zero80 W
theorem zero81 (W : World) : (do pure (Value.tuple #[← zeroValue 81, .bool false]) : Sem Value).run Tryd.prog W = .ok (.tuple #[.int .u8 0, .bool false]) W := by kernel_rfl
theorem no81 (W : World) (u : TypeId) (v : Value) (h : u ≠ 81) : (Instr.typeAssert (.iface u v) 20 81 true).run Tryd.prog W = .ok (.tuple #[.int .u8 0, .bool false]) W := by
 have e : (Instr.typeAssert (.iface u v) 20 81 true).run Tryd.prog W = (if u = 81 then (pure (Value.tuple #[v, .bool true]) : Sem Value) else (do pure (Value.tuple #[← zeroValue 81, .bool false]))).run Tryd.prog W := by kernel_rfl
 rw [e, if_neg h]
 exact zero81 W
theorem zero82 (W : World) : (do pure (Value.tuple #[← zeroValue 82, .bool false]) : Sem Value).run Tryd.prog W = .ok (.tuple #[.int .u8 0, .bool false]) W := by kernel_rfl
theorem no82 (W : World) (u : TypeId) (v : Value) (h : u ≠ 82) : (Instr.typeAssert (.iface u v) 20 82 true).run Tryd.prog W = .ok (.tuple #[.int .u8 0, .bool false]) W := by
 have e : (Instr.typeAssert (.iface u v) 20 82 true).run Tryd.prog W = (if u = 82 then (pure (Value.tuple #[v, .bool true]) : Sem Value) else (do pure (Value.tuple #[← zeroValue 82, .bool false]))).run Tryd.prog W := by kernel_rfl
 rw [e, if_neg h]
 exact zero82 W
theorem zero4 (W : World) : (do pure (Value.tuple #[← zeroValue 4, .bool false]) : Sem Value).run Tryd.prog W = .ok (.tuple #[.bool false, .bool false]) W := by kernel_rfl
theorem yes4 (W : World) (v : Value) : (Instr.typeAssert (.iface 4 v) 20 4 true).run Tryd.prog W = .ok (.tuple #[v, .bool true]) W := by kernel_rfl
theorem no4 (W : World) (u : TypeId) (v : Value) (h : u ≠ 4) : (Instr.typeAssert (.iface u v) 20 4 true).run Tryd.prog W = .ok (.tuple #[.bool false, .bool false]) W := by
 have e : (Instr.typeAssert (.iface u v) 20 4 true).run Tryd.prog W = (if u = 4 then (pure (Value.tuple #[v, .bool true]) : Sem Value) else (do pure (Value.tuple #[← zeroValue 4, .bool false]))).run Tryd.prog W := by kernel_rfl
 rw [e, if_neg h]
 exact zero4 W
theorem zero65 (W : World) : (do pure (Value.tuple #[← zeroValue 65, .bool false]) : Sem Value).run Tryd.prog W = .ok (.tuple #[.int .i16 0, .bool false]) W := by kernel_rfl
theorem yes65 (W : World) (v : Value) : (Instr.typeAssert (.iface 65 v) 20 65 true).run Tryd.prog W = .ok (.tuple #[v, .bool true]) W := by kernel_rfl
theorem no65 (W : World) (u : TypeId) (v : Value) (h : u ≠ 65) : (Instr.typeAssert (.iface u v) 20 65 true).run Tryd.prog W = .ok (.tuple #[.int .i16 0, .bool false]) W := by
 have e : (Instr.typeAssert (.iface u v) 20 65 true).run Tryd.prog W = (if u = 65 then (pure (Value.tuple #[v, .bool true]) : Sem Value) else (do pure (Value.tuple #[← zeroValue 65, .bool false]))).run Tryd.prog W := by kernel_rfl
 rw [e, if_neg h]
 exact zero65 W
theorem zero83 (W : World) : (do pure (Value.tuple #[← zeroValue 83, .bool false]) : Sem Value).run Tryd.prog W = .ok (.tuple #[.int .u16 0, .bool false]) W := by kernel_rfl
theorem yes83 (W : World) (v : Value) : (Instr.typeAssert (.iface 83 v) 20 83 true).run Tryd.prog W = .ok (.tuple #[v, .bool true]) W := by kernel_rfl
theorem no83 (W : World) (u : TypeId) (v : Value) (h : u ≠ 83) : (Instr.typeAssert (.iface u v) 20 83 true).run Tryd.prog W = .ok (.tuple #[.int .u16 0, .bool false]) W := by
 have e : (Instr.typeAssert (.iface u v) 20 83 true).run Tryd.prog W = (if u = 83 then (pure (Value.tuple #[v, .bool true]) : Sem Value) else (do pure (Value.tuple #[← zeroValue 83, .bool false]))).run Tryd.prog W := by kernel_rfl
 rw [e, if_neg h]
 exact zero83 W
theorem zero21 (W : World) : (do pure (Value.tuple #[← zeroValue 21, .bool false]) : Sem Value).run Tryd.prog W = .ok (.tuple #[.int .i32 0, .bool false]) W := by kernel_rfl
theorem yes21 (W : World) (v : Value) : (Instr.typeAssert (.iface 21 v) 20 21 true).run Tryd.prog W = .ok (.tuple #[v, .bool true]) W := by kernel_rfl
theorem no21 (W : World) (u : TypeId) (v : Value) (h : u ≠ 21) : (Instr.typeAssert (.iface u v) 20 21 true).run Tryd.prog W = .ok (.tuple #[.int .i32 0, .bool false]) W := by
 have e : (Instr.typeAssert (.iface u v) 20 21 true).run Tryd.prog W = (if u = 21 then (pure (Value.tuple #[v, .bool true]) : Sem Value) else (do pure (Value.tuple #[← zeroValue 21, .bool false]))).run Tryd.prog W := by kernel_rfl
 rw [e, if_neg h]
 exact zero21 W
theorem zero84 (W : World) : (do pure (Value.tuple #[← zeroValue 84, .bool false]) : Sem Value).run Tryd.prog W = .ok (.tuple #[.int .u32 0, .bool false]) W := by kernel_rfl
theorem yes84 (W : World) (v : Value) : (Instr.typeAssert (.iface 84 v) 20 84 true).run Tryd.prog W = .ok (.tuple #[v, .bool true]) W := by kernel_rfl
theorem no84 (W : World) (u : TypeId) (v : Value) (h : u ≠ 84) : (Instr.typeAssert (.iface u v) 20 84 true).run Tryd.prog W = .ok (.tuple #[.int .u32 0, .bool false]) W := by
 have e : (Instr.typeAssert (.iface u v) 20 84 true).run Tryd.prog W = (if u = 84 then (pure (Value.tuple #[v, .bool true]) : Sem Value) else (do pure (Value.tuple #[← zeroValue 84, .bool false]))).run Tryd.prog W := by kernel_rfl
 rw [e, if_neg h]
 exact zero84 W
theorem zero2 (W : World) : (do pure (Value.tuple #[← zeroValue 2, .bool false]) : Sem Value).run Tryd.prog W = .ok (.tuple #[.int .i64 0, .bool false]) W := by kernel_rfl
theorem yes2 (W : World) (v : Value) : (Instr.typeAssert (.iface 2 v) 20 2 true).run Tryd.prog W = .ok (.tuple #[v, .bool true]) W := by kernel_rfl
theorem no2 (W : World) (u : TypeId) (v : Value) (h : u ≠ 2) : (Instr.typeAssert (.iface u v) 20 2 true).run Tryd.prog W = .ok (.tuple #[.int .i64 0, .bool false]) W := by
 have e : (Instr.typeAssert (.iface u v) 20 2 true).run Tryd.prog W = (if u = 2 then (pure (Value.tuple #[v, .bool true]) : Sem Value) else (do pure (Value.tuple #[← zeroValue 2, .bool false]))).run Tryd.prog W := by kernel_rfl
 rw [e, if_neg h]
 exact zero2 W
theorem zero28 (W : World) : (do pure (Value.tuple #[← zeroValue 28, .bool false]) : Sem Value).run Tryd.prog W = .ok (.tuple #[.int .u64 0, .bool false]) W := by kernel_rfl
theorem yes28 (W : World) (v : Value) : (Instr.typeAssert (.iface 28 v) 20 28 true).run Tryd.prog W = .ok (.tuple #[v, .bool true]) W := by kernel_rfl
theorem no28 (W : World) (u : TypeId) (v : Value) (h : u ≠ 28) : (Instr.typeAssert (.iface u v) 20 28 true).run Tryd.prog W = .ok (.tuple #[.int .u64 0, .bool false]) W := by
 have e : (Instr.typeAssert (.iface u v) 20 28 true).run Tryd.prog W = (if u = 28 then (pure (Value.tuple #[v, .bool true]) : Sem Value) else (do pure (Value.tuple #[← zeroValue 28, .bool false]))).run Tryd.prog W := by kernel_rfl
 rw [e, if_neg h]
 exact zero28 W
theorem zero85 (W : World) : (do pure (Value.tuple #[← zeroValue 85, .bool false]) : Sem Value).run Tryd.prog W = .ok (.tuple #[.float .f64 0, .bool false]) W := by kernel_rfl
theorem yes85 (W : World) (v : Value) : (Instr.typeAssert (.iface 85 v) 20 85 true).run Tryd.prog W = .ok (.tuple #[v, .bool true]) W := by kernel_rfl
theorem no85 (W : World) (u : TypeId) (v : Value) (h : u ≠ 85) : (Instr.typeAssert (.iface u v) 20 85 true).run Tryd.prog W = .ok (.tuple #[.float .f64 0, .bool false]) W := by
 have e : (Instr.typeAssert (.iface u v) 20 85 true).run Tryd.prog W = (if u = 85 then (pure (Value.tuple #[v, .bool true]) : Sem Value) else (do pure (Value.tuple #[← zeroValue 85, .bool false]))).run Tryd.prog W := by kernel_rfl
 rw [e, if_neg h]
 exact zero85 W
theorem zero9 (W : World) : (do pure (Value.tuple #[← zeroValue 9, .bool false]) : Sem Value).run Tryd.prog W = .ok (.tuple #[.string ⟨#[]⟩, .bool false]) W := by kernel_rfl
theorem yes9 (W : World) (v : Value) : (Instr.typeAssert (.iface 9 v) 20 9 true).run Tryd.prog W = .ok (.tuple #[v, .bool true]) W := by kernel_rfl
theorem no9 (W : World) (u : TypeId) (v : Value) (h : u ≠ 9) : (Instr.typeAssert (.iface u v) 20 9 true).run Tryd.prog W = .ok (.tuple #[.string ⟨#[]⟩, .bool false]) W := by
 have e : (Instr.typeAssert (.iface u v) 20 9 true).run Tryd.prog W = (if u = 9 then (pure (Value.tuple #[v, .bool true]) : Sem Value) else (do pure (Value.tuple #[← zeroValue 9, .bool false]))).run Tryd.prog W := by kernel_rfl
 rw [e, if_neg h]
 exact zero9 W
theorem zero86 (W : World) : (do pure (Value.tuple #[← zeroValue 86, .bool false]) : Sem Value).run Tryd.prog W = .ok (.tuple #[.string ⟨#[]⟩, .bool false]) W := by kernel_rfl
theorem yes86 (W : World) (v : Value) : (Instr.typeAssert (.iface 86 v) 20 86 true).run Tryd.prog W = .ok (.tuple #[v, .bool true]) W := by kernel_rfl
theorem no86 (W : World) (u : TypeId) (v : Value) (h : u ≠ 86) : (Instr.typeAssert (.iface u v) 20 86 true).run Tryd.prog W = .ok (.tuple #[.string ⟨#[]⟩, .bool false]) W := by
 have e : (Instr.typeAssert (.iface u v) 20 86 true).run Tryd.prog W = (if u = 86 then (pure (Value.tuple #[v, .bool true]) : Sem Value) else (do pure (Value.tuple #[← zeroValue 86, .bool false]))).run Tryd.prog W := by kernel_rfl
 rw [e, if_neg h]
 exact zero86 W
theorem zero42 (W : World) : (do pure (Value.tuple #[← zeroValue 42, .bool false]) : Sem Value).run Tryd.prog W = .ok (.tuple #[.agg #[.string ⟨#[]⟩], .bool false]) W := by kernel_rfl
theorem yes42 (W : World) (v : Value) : (Instr.typeAssert (.iface 42 v) 20 42 true).run Tryd.prog W = .ok (.tuple #[v, .bool true]) W := by kernel_rfl
theorem no42 (W : World) (u : TypeId) (v : Value) (h : u ≠ 42) : (Instr.typeAssert (.iface u v) 20 42 true).run Tryd.prog W = .ok (.tuple #[.agg #[.string ⟨#[]⟩], .bool false]) W := by
 have e : (Instr.typeAssert (.iface u v) 20 42 true).run Tryd.prog W = (if u = 42 then (pure (Value.tuple #[v, .bool true]) : Sem Value) else (do pure (Value.tuple #[← zeroValue 42, .bool false]))).run Tryd.prog W := by kernel_rfl
 rw [e, if_neg h]
 exact zero42 W
theorem zero88 (W : World) : (do pure (Value.tuple #[← zeroValue 88, .bool false]) : Sem Value).run Tryd.prog W = .ok (.tuple #[.agg #[.string ⟨#[]⟩, .nilIface], .bool false]) W := by kernel_rfl
theorem yes88 (W : World) (v : Value) : (Instr.typeAssert (.iface 88 v) 20 88 true).run Tryd.prog W = .ok (.tuple #[v, .bool true]) W := by kernel_rfl
theorem no88 (W : World) (u : TypeId) (v : Value) (h : u ≠ 88) : (Instr.typeAssert (.iface u v) 20 88 true).run Tryd.prog W = .ok (.tuple #[.agg #[.string ⟨#[]⟩, .nilIface], .bool false]) W := by
 have e : (Instr.typeAssert (.iface u v) 20 88 true).run Tryd.prog W = (if u = 88 then (pure (Value.tuple #[v, .bool true]) : Sem Value) else (do pure (Value.tuple #[← zeroValue 88, .bool false]))).run Tryd.prog W := by kernel_rfl
 rw [e, if_neg h]
 exact zero88 W
theorem zero89 (W : World) : (do pure (Value.tuple #[← zeroValue 89, .bool false]) : Sem Value).run Tryd.prog W = .ok (.tuple #[.int .i32 0, .bool false]) W := by kernel_rfl
theorem no89 (W : World) (u : TypeId) (v : Value) (h : u ≠ 89) : (Instr.typeAssert (.iface u v) 20 89 true).run Tryd.prog W = .ok (.tuple #[.int .i32 0, .bool false]) W := by
 have e : (Instr.typeAssert (.iface u v) 20 89 true).run Tryd.prog W = (if u = 89 then (pure (Value.tuple #[v, .bool true]) : Sem Value) else (do pure (Value.tuple #[← zeroValue 89, .bool false]))).run Tryd.prog W := by kernel_rfl
 rw [e, if_neg h]
 exact zero89 W
theorem zero90 (W : World) : (do pure (Value.tuple #[← zeroValue 90, .bool false]) : Sem Value).run Tryd.prog W = .ok (.tuple #[.int .u32 0, .bool false]) W := by kernel_rfl
theorem yes90 (W : World) (v : Value) : (Instr.typeAssert (.iface 90 v) 20 90 true).run Tryd.prog W = .ok (.tuple #[v, .bool true]) W := by kernel_rfl
theorem no90 (W : World) (u : TypeId) (v : Value) (h : u ≠ 90) : (Instr.typeAssert (.iface u v) 20 90 true).run Tryd.prog W = .ok (.tuple #[.int .u32 0, .bool false]) W := by
 have e : (Instr.typeAssert (.iface u v) 20 90 true).run Tryd.prog W = (if u = 90 then (pure (Value.tuple #[v, .bool true]) : Sem Value) else (do pure (Value.tuple #[← zeroValue 90, .bool false]))).run Tryd.prog W := by kernel_rfl
 rw [e, if_neg h]
 exact zero90 W
theorem zero44 (W : World) : (do pure (Value.tuple #[← zeroValue 44, .bool false]) : Sem Value).run Tryd.prog W = .ok (.tuple #[.slice none 0 0, .bool false]) W := by kernel_rfl
theorem no44 (W : World) (u : TypeId) (v : Value) (h : u ≠ 44) : (Instr.typeAssert (.iface u v) 20 44 true).run Tryd.prog W = .ok (.tuple #[.slice none 0 0, .bool false]) W := by
 have e : (Instr.typeAssert (.iface u v) 20 44 true).run Tryd.prog W = (if u = 44 then (pure (Value.tuple #[v, .bool true]) : Sem Value) else (do pure (Value.tuple #[← zeroValue 44, .bool false]))).run Tryd.prog W := by kernel_rfl
 rw [e, if_neg h]
 exact zero44 W
theorem zero52 (W : World) : (do pure (Value.tuple #[← zeroValue 52, .bool false]) : Sem Value).run Tryd.prog W = .ok (.tuple #[.slice none 0 0, .bool false]) W := by kernel_rfl
theorem no52 (W : World) (u : TypeId) (v : Value) (h : u ≠ 52) : (Instr.typeAssert (.iface u v) 20 52 true).run Tryd.prog W = .ok (.tuple #[.slice none 0 0, .bool false]) W := by
 have e : (Instr.typeAssert (.iface u v) 20 52 true).run Tryd.prog W = (if u = 52 then (pure (Value.tuple #[v, .bool true]) : Sem Value) else (do pure (Value.tuple #[← zeroValue 52, .bool false]))).run Tryd.prog W := by kernel_rfl
 rw [e, if_neg h]
 exact zero52 W
theorem zero91 (W : World) : (do pure (Value.tuple #[← zeroValue 91, .bool false]) : Sem Value).run Tryd.prog W = .ok (.tuple #[.pointer none, .bool false]) W := by kernel_rfl
theorem yes91 (W : World) (v : Value) : (Instr.typeAssert (.iface 91 v) 20 91 true).run Tryd.prog W = .ok (.tuple #[v, .bool true]) W := by kernel_rfl
theorem no91 (W : World) (u : TypeId) (v : Value) (h : u ≠ 91) : (Instr.typeAssert (.iface u v) 20 91 true).run Tryd.prog W = .ok (.tuple #[.pointer none, .bool false]) W := by
 have e : (Instr.typeAssert (.iface u v) 20 91 true).run Tryd.prog W = (if u = 91 then (pure (Value.tuple #[v, .bool true]) : Sem Value) else (do pure (Value.tuple #[← zeroValue 91, .bool false]))).run Tryd.prog W := by kernel_rfl
 rw [e, if_neg h]
 exact zero91 W
theorem zero95 (W : World) : (do pure (Value.tuple #[← zeroValue 95, .bool false]) : Sem Value).run Tryd.prog W = .ok (.tuple #[.pointer none, .bool false]) W := by kernel_rfl
theorem yes95 (W : World) (v : Value) : (Instr.typeAssert (.iface 95 v) 20 95 true).run Tryd.prog W = .ok (.tuple #[v, .bool true]) W := by kernel_rfl
theorem no95 (W : World) (u : TypeId) (v : Value) (h : u ≠ 95) : (Instr.typeAssert (.iface u v) 20 95 true).run Tryd.prog W = .ok (.tuple #[.pointer none, .bool false]) W := by
 have e : (Instr.typeAssert (.iface u v) 20 95 true).run Tryd.prog W = (if u = 95 then (pure (Value.tuple #[v, .bool true]) : Sem Value) else (do pure (Value.tuple #[← zeroValue 95, .bool false]))).run Tryd.prog W := by kernel_rfl
 rw [e, if_neg h]
 exact zero95 W
theorem yes100 (W : World) (v : Value) : (Instr.typeAssert (.iface 100 v) 20 100 true).run Tryd.prog W = .ok (.tuple #[v, .bool true]) W := by kernel_rfl

def ZPost (g : List UInt8) (w : World) (e : Ending) (w' : World) : Prop := ∃ r : ByteArray, e = .returned (.string r) ∧ B r = g ∧ Below w.heap.size w w'

set_option maxHeartbeats 1000000 in
set_option maxRecDepth 100000 in
theorem zt_y (n : Int) (w : World) : Calls Tryd.prog 27 #[.iface 5 (.int .u8 n)] w (ZPost [121] w) := by
 have hy := fun W => yes5 W (.int .u8 n)
 go_enter Tryd.func27, Tryd.ntmps27
 go_wp2
 go_ret
 exact ⟨_, rfl, rfl, by repeat (first | exact Below.refl _ _ | refine below_set ?_ (Nat.le_refl _) _ _ | apply below_alloc)⟩
set_option maxHeartbeats 1000000 in
set_option maxRecDepth 100000 in
theorem zt_b (x : Bool) (w : World) : Calls Tryd.prog 27 #[.iface 4 (.bool x)] w (ZPost [98] w) := by
 have hn5 := fun W => no5 W 4 (.bool x) (by decide)
 have hn80 := fun W => no80 W 4 (.bool x) (by decide)
 have hn81 := fun W => no81 W 4 (.bool x) (by decide)
 have hn82 := fun W => no82 W 4 (.bool x) (by decide)
 have hy := fun W => yes4 W (.bool x)
 go_enter Tryd.func27, Tryd.ntmps27
 go_wp2
 go_ret
 exact ⟨_, rfl, rfl, by repeat (first | exact Below.refl _ _ | refine below_set ?_ (Nat.le_refl _) _ _ | apply below_alloc)⟩
set_option maxHeartbeats 1000000 in
set_option maxRecDepth 100000 in
theorem zt_n (n : Int) (w : World) : Calls Tryd.prog 27 #[.iface 65 (.int .i16 n)] w (ZPost [110] w) := by
 have hn5 := fun W => no5 W 65 (.int .i16 n) (by decide)
 have hn80 := fun W => no80 W 65 (.int .i16 n) (by decide)
 have hn81 := fun W => no81 W 65 (.int .i16 n) (by decide)
 have hn82 := fun W => no82 W 65 (.int .i16 n) (by decide)
 have hn4 := fun W => no4 W 65 (.int .i16 n) (by decide)
 have hy := fun W => yes65 W (.int .i16 n)
 go_enter Tryd.func27, Tryd.ntmps27
 go_wp2
 go_ret
 exact ⟨_, rfl, rfl, by repeat (first | exact Below.refl _ _ | refine below_set ?_ (Nat.le_refl _) _ _ | apply below_alloc)⟩
set_option maxHeartbeats 1000000 in
set_option maxRecDepth 100000 in
theorem zt_q (n : Int) (w : World) : Calls Tryd.prog 27 #[.iface 83 (.int .u16 n)] w (ZPost [113] w) := by
 have hn5 := fun W => no5 W 83 (.int .u16 n) (by decide)
 have hn80 := fun W => no80 W 83 (.int .u16 n) (by decide)
 have hn81 := fun W => no81 W 83 (.int .u16 n) (by decide)
 have hn82 := fun W => no82 W 83 (.int .u16 n) (by decide)
 have hn4 := fun W => no4 W 83 (.int .u16 n) (by decide)
 have hn65 := fun W => no65 W 83 (.int .u16 n) (by decide)
 have hy := fun W => yes83 W (.int .u16 n)
 go_enter Tryd.func27, Tryd.ntmps27
 go_wp2
 go_ret
 exact ⟨_, rfl, rfl, by repeat (first | exact Below.refl _ _ | refine below_set ?_ (Nat.le_refl _) _ _ | apply below_alloc)⟩
set_option maxHeartbeats 1000000 in
set_option maxRecDepth 100000 in
theorem zt_i (n : Int) (w : World) : Calls Tryd.prog 27 #[.iface 21 (.int .i32 n)] w (ZPost [105] w) := by
 have hn5 := fun W => no5 W 21 (.int .i32 n) (by decide)
 have hn80 := fun W => no80 W 21 (.int .i32 n) (by decide)
 have hn81 := fun W => no81 W 21 (.int .i32 n) (by decide)
 have hn82 := fun W => no82 W 21 (.int .i32 n) (by decide)
 have hn4 := fun W => no4 W 21 (.int .i32 n) (by decide)
 have hn65 := fun W => no65 W 21 (.int .i32 n) (by decide)
 have hn83 := fun W => no83 W 21 (.int .i32 n) (by decide)
 have hy := fun W => yes21 W (.int .i32 n)
 go_enter Tryd.func27, Tryd.ntmps27
 go_wp2
 go_ret
 exact ⟨_, rfl, rfl, by repeat (first | exact Below.refl _ _ | refine below_set ?_ (Nat.le_refl _) _ _ | apply below_alloc)⟩
set_option maxHeartbeats 1000000 in
set_option maxRecDepth 100000 in
theorem zt_u (n : Int) (w : World) : Calls Tryd.prog 27 #[.iface 84 (.int .u32 n)] w (ZPost [117] w) := by
 have hn5 := fun W => no5 W 84 (.int .u32 n) (by decide)
 have hn80 := fun W => no80 W 84 (.int .u32 n) (by decide)
 have hn81 := fun W => no81 W 84 (.int .u32 n) (by decide)
 have hn82 := fun W => no82 W 84 (.int .u32 n) (by decide)
 have hn4 := fun W => no4 W 84 (.int .u32 n) (by decide)
 have hn65 := fun W => no65 W 84 (.int .u32 n) (by decide)
 have hn83 := fun W => no83 W 84 (.int .u32 n) (by decide)
 have hn21 := fun W => no21 W 84 (.int .u32 n) (by decide)
 have hy := fun W => yes84 W (.int .u32 n)
 go_enter Tryd.func27, Tryd.ntmps27
 go_wp2
 go_ret
 exact ⟨_, rfl, rfl, by repeat (first | exact Below.refl _ _ | refine below_set ?_ (Nat.le_refl _) _ _ | apply below_alloc)⟩
set_option maxHeartbeats 1000000 in
set_option maxRecDepth 100000 in
theorem zt_x (n : Int) (w : World) : Calls Tryd.prog 27 #[.iface 2 (.int .i64 n)] w (ZPost [120] w) := by
 have hn5 := fun W => no5 W 2 (.int .i64 n) (by decide)
 have hn80 := fun W => no80 W 2 (.int .i64 n) (by decide)
 have hn81 := fun W => no81 W 2 (.int .i64 n) (by decide)
 have hn82 := fun W => no82 W 2 (.int .i64 n) (by decide)
 have hn4 := fun W => no4 W 2 (.int .i64 n) (by decide)
 have hn65 := fun W => no65 W 2 (.int .i64 n) (by decide)
 have hn83 := fun W => no83 W 2 (.int .i64 n) (by decide)
 have hn21 := fun W => no21 W 2 (.int .i64 n) (by decide)
 have hn84 := fun W => no84 W 2 (.int .i64 n) (by decide)
 have hy := fun W => yes2 W (.int .i64 n)
 go_enter Tryd.func27, Tryd.ntmps27
 go_wp2
 go_ret
 exact ⟨_, rfl, rfl, by repeat (first | exact Below.refl _ _ | refine below_set ?_ (Nat.le_refl _) _ _ | apply below_alloc)⟩
set_option maxHeartbeats 1000000 in
set_option maxRecDepth 100000 in
theorem zt_t (n : Int) (w : World) : Calls Tryd.prog 27 #[.iface 28 (.int .u64 n)] w (ZPost [116] w) := by
 have hn5 := fun W => no5 W 28 (.int .u64 n) (by decide)
 have hn80 := fun W => no80 W 28 (.int .u64 n) (by decide)
 have hn81 := fun W => no81 W 28 (.int .u64 n) (by decide)
 have hn82 := fun W => no82 W 28 (.int .u64 n) (by decide)
 have hn4 := fun W => no4 W 28 (.int .u64 n) (by decide)
 have hn65 := fun W => no65 W 28 (.int .u64 n) (by decide)
 have hn83 := fun W => no83 W 28 (.int .u64 n) (by decide)
 have hn21 := fun W => no21 W 28 (.int .u64 n) (by decide)
 have hn84 := fun W => no84 W 28 (.int .u64 n) (by decide)
 have hn2 := fun W => no2 W 28 (.int .u64 n) (by decide)
 have hy := fun W => yes28 W (.int .u64 n)
 go_enter Tryd.func27, Tryd.ntmps27
 go_wp2
 go_ret
 exact ⟨_, rfl, rfl, by repeat (first | exact Below.refl _ _ | refine below_set ?_ (Nat.le_refl _) _ _ | apply below_alloc)⟩
set_option maxHeartbeats 1000000 in
set_option maxRecDepth 100000 in
theorem zt_d (n : Nat) (w : World) : Calls Tryd.prog 27 #[.iface 85 (.float .f64 n)] w (ZPost [100] w) := by
 have hn5 := fun W => no5 W 85 (.float .f64 n) (by decide)
 have hn80 := fun W => no80 W 85 (.float .f64 n) (by decide)
 have hn81 := fun W => no81 W 85 (.float .f64 n) (by decide)
 have hn82 := fun W => no82 W 85 (.float .f64 n) (by decide)
 have hn4 := fun W => no4 W 85 (.float .f64 n) (by decide)
 have hn65 := fun W => no65 W 85 (.float .f64 n) (by decide)
 have hn83 := fun W => no83 W 85 (.float .f64 n) (by decide)
 have hn21 := fun W => no21 W 85 (.float .f64 n) (by decide)
 have hn84 := fun W => no84 W 85 (.float .f64 n) (by decide)
 have hn2 := fun W => no2 W 85 (.float .f64 n) (by decide)
 have hn28 := fun W => no28 W 85 (.float .f64 n) (by decide)
 have hy := fun W => yes85 W (.float .f64 n)
 go_enter Tryd.func27, Tryd.ntmps27
 go_wp2
 go_ret
 exact ⟨_, rfl, rfl, by repeat (first | exact Below.refl _ _ | refine below_set ?_ (Nat.le_refl _) _ _ | apply below_alloc)⟩
set_option maxHeartbeats 1000000 in
set_option maxRecDepth 100000 in
theorem zt_s (s : ByteArray) (w : World) : Calls Tryd.prog 27 #[.iface 9 (.string s)] w (ZPost [115] w) := by
 have hn5 := fun W => no5 W 9 (.string s) (by decide)
 have hn80 := fun W => no80 W 9 (.string s) (by decide)
 have hn81 := fun W => no81 W 9 (.string s) (by decide)
 have hn82 := fun W => no82 W 9 (.string s) (by decide)
 have hn4 := fun W => no4 W 9 (.string s) (by decide)
 have hn65 := fun W => no65 W 9 (.string s) (by decide)
 have hn83 := fun W => no83 W 9 (.string s) (by decide)
 have hn21 := fun W => no21 W 9 (.string s) (by decide)
 have hn84 := fun W => no84 W 9 (.string s) (by decide)
 have hn2 := fun W => no2 W 9 (.string s) (by decide)
 have hn28 := fun W => no28 W 9 (.string s) (by decide)
 have hn85 := fun W => no85 W 9 (.string s) (by decide)
 have hy := fun W => yes9 W (.string s)
 go_enter Tryd.func27, Tryd.ntmps27
 go_wp2
 go_ret
 exact ⟨_, rfl, rfl, by repeat (first | exact Below.refl _ _ | refine below_set ?_ (Nat.le_refl _) _ _ | apply below_alloc)⟩
set_option maxHeartbeats 1000000 in
set_option maxRecDepth 100000 in
theorem zt_o (s : ByteArray) (w : World) : Calls Tryd.prog 27 #[.iface 86 (.string s)] w (ZPost [111] w) := by
 have hn5 := fun W => no5 W 86 (.string s) (by decide)
 have hn80 := fun W => no80 W 86 (.string s) (by decide)
 have hn81 := fun W => no81 W 86 (.string s) (by decide)
 have hn82 := fun W => no82 W 86 (.string s) (by decide)
 have hn4 := fun W => no4 W 86 (.string s) (by decide)
 have hn65 := fun W => no65 W 86 (.string s) (by decide)
 have hn83 := fun W => no83 W 86 (.string s) (by decide)
 have hn21 := fun W => no21 W 86 (.string s) (by decide)
 have hn84 := fun W => no84 W 86 (.string s) (by decide)
 have hn2 := fun W => no2 W 86 (.string s) (by decide)
 have hn28 := fun W => no28 W 86 (.string s) (by decide)
 have hn85 := fun W => no85 W 86 (.string s) (by decide)
 have hn9 := fun W => no9 W 86 (.string s) (by decide)
 have hy := fun W => yes86 W (.string s)
 go_enter Tryd.func27, Tryd.ntmps27
 go_wp2
 go_ret
 exact ⟨_, rfl, rfl, by repeat (first | exact Below.refl _ _ | refine below_set ?_ (Nat.le_refl _) _ _ | apply below_alloc)⟩
set_option maxHeartbeats 1000000 in
set_option maxRecDepth 100000 in
theorem zt_g (s : ByteArray) (w : World) : Calls Tryd.prog 27 #[.iface 42 (.agg #[.string s])] w (ZPost [103] w) := by
 have hn5 := fun W => no5 W 42 (.agg #[.string s]) (by decide)
 have hn80 := fun W => no80 W 42 (.agg #[.string s]) (by decide)
 have hn81 := fun W => no81 W 42 (.agg #[.string s]) (by decide)
 have hn82 := fun W => no82 W 42 (.agg #[.string s]) (by decide)
 have hn4 := fun W => no4 W 42 (.agg #[.string s]) (by decide)
 have hn65 := fun W => no65 W 42 (.agg #[.string s]) (by decide)
 have hn83 := fun W => no83 W 42 (.agg #[.string s]) (by decide)
 have hn21 := fun W => no21 W 42 (.agg #[.string s]) (by decide)
 have hn84 := fun W => no84 W 42 (.agg #[.string s]) (by decide)
 have hn2 := fun W => no2 W 42 (.agg #[.string s]) (by decide)
 have hn28 := fun W => no28 W 42 (.agg #[.string s]) (by decide)
 have hn85 := fun W => no85 W 42 (.agg #[.string s]) (by decide)
 have hn9 := fun W => no9 W 42 (.agg #[.string s]) (by decide)
 have hn86 := fun W => no86 W 42 (.agg #[.string s]) (by decide)
 have hy := fun W => yes42 W (.agg #[.string s])
 go_enter Tryd.func27, Tryd.ntmps27
 go_wp2
 go_ret
 exact ⟨_, rfl, rfl, by repeat (first | exact Below.refl _ _ | refine below_set ?_ (Nat.le_refl _) _ _ | apply below_alloc)⟩
set_option maxHeartbeats 1000000 in
set_option maxRecDepth 100000 in
theorem zt_v (s : ByteArray) (t : TypeId) (u : Value) (w : World) : Calls Tryd.prog 27 #[.iface 88 (.agg #[.string s, .iface t u])] w (ZPost [118] w) := by
 have hn5 := fun W => no5 W 88 (.agg #[.string s, .iface t u]) (by decide)
 have hn80 := fun W => no80 W 88 (.agg #[.string s, .iface t u]) (by decide)
 have hn81 := fun W => no81 W 88 (.agg #[.string s, .iface t u]) (by decide)
 have hn82 := fun W => no82 W 88 (.agg #[.string s, .iface t u]) (by decide)
 have hn4 := fun W => no4 W 88 (.agg #[.string s, .iface t u]) (by decide)
 have hn65 := fun W => no65 W 88 (.agg #[.string s, .iface t u]) (by decide)
 have hn83 := fun W => no83 W 88 (.agg #[.string s, .iface t u]) (by decide)
 have hn21 := fun W => no21 W 88 (.agg #[.string s, .iface t u]) (by decide)
 have hn84 := fun W => no84 W 88 (.agg #[.string s, .iface t u]) (by decide)
 have hn2 := fun W => no2 W 88 (.agg #[.string s, .iface t u]) (by decide)
 have hn28 := fun W => no28 W 88 (.agg #[.string s, .iface t u]) (by decide)
 have hn85 := fun W => no85 W 88 (.agg #[.string s, .iface t u]) (by decide)
 have hn9 := fun W => no9 W 88 (.agg #[.string s, .iface t u]) (by decide)
 have hn86 := fun W => no86 W 88 (.agg #[.string s, .iface t u]) (by decide)
 have hn42 := fun W => no42 W 88 (.agg #[.string s, .iface t u]) (by decide)
 have hy := fun W => yes88 W (.agg #[.string s, .iface t u])
 go_enter Tryd.func27, Tryd.ntmps27
 go_wp2
 go_ret
 exact ⟨_, rfl, rfl, by repeat (first | exact Below.refl _ _ | refine below_set ?_ (Nat.le_refl _) _ _ | apply below_alloc)⟩
set_option maxHeartbeats 1000000 in
set_option maxRecDepth 100000 in
theorem zt_h (n : Int) (w : World) : Calls Tryd.prog 27 #[.iface 90 (.int .u32 n)] w (ZPost [104] w) := by
 have hn5 := fun W => no5 W 90 (.int .u32 n) (by decide)
 have hn80 := fun W => no80 W 90 (.int .u32 n) (by decide)
 have hn81 := fun W => no81 W 90 (.int .u32 n) (by decide)
 have hn82 := fun W => no82 W 90 (.int .u32 n) (by decide)
 have hn4 := fun W => no4 W 90 (.int .u32 n) (by decide)
 have hn65 := fun W => no65 W 90 (.int .u32 n) (by decide)
 have hn83 := fun W => no83 W 90 (.int .u32 n) (by decide)
 have hn21 := fun W => no21 W 90 (.int .u32 n) (by decide)
 have hn84 := fun W => no84 W 90 (.int .u32 n) (by decide)
 have hn2 := fun W => no2 W 90 (.int .u32 n) (by decide)
 have hn28 := fun W => no28 W 90 (.int .u32 n) (by decide)
 have hn85 := fun W => no85 W 90 (.int .u32 n) (by decide)
 have hn9 := fun W => no9 W 90 (.int .u32 n) (by decide)
 have hn86 := fun W => no86 W 90 (.int .u32 n) (by decide)
 have hn42 := fun W => no42 W 90 (.int .u32 n) (by decide)
 have hn88 := fun W => no88 W 90 (.int .u32 n) (by decide)
 have hn89 := fun W => no89 W 90 (.int .u32 n) (by decide)
 have hy := fun W => yes90 W (.int .u32 n)
 go_enter Tryd.func27, Tryd.ntmps27
 go_wp2
 go_ret
 exact ⟨_, rfl, rfl, by repeat (first | exact Below.refl _ _ | refine below_set ?_ (Nat.le_refl _) _ _ | apply below_alloc)⟩
def T27_61 : Bool × List (List Nat × List Nat) := (true, [([], []), ([0], [0]), ([1], [1]), ([2], [2]), ([], []), ([4], [4]), ([5], [5]), ([6], [6]), ([3, 7], [3, 7]), ([8, 8, 0, 1, 2, 3, 4, 5, 6, 7, 8], [8])])
def B27_61 : List Nat := [0, 1, 3, 7, 0, 16, 48, 112, 255, 511]
theorem tab27_61 : rtab .any (opsOf Tryd.f27 61) = T27_61 := by kernel_rfl
theorem bits27_61 : waitsOk T27_61.2 B27_61 = true := by kernel_rfl

set_option maxHeartbeats 1000000 in
set_option maxRecDepth 100000 in
theorem zt_list (b : Nat) (e : ByteArray) (k : Value) (he : e.size ≤ 300) (w : World) (hb : w.heap[b]? = some (.cells #[.string e, k] 94 (0, 0))) : Calls Tryd.prog 27 #[.iface 91 (.pointer (some ⟨b, 0, none⟩))] w (ZPost (91 :: B e) w) := by
 have hn5 := fun W => no5 W 91 (.pointer (some ⟨b, 0, none⟩)) (by decide)
 have hn80 := fun W => no80 W 91 (.pointer (some ⟨b, 0, none⟩)) (by decide)
 have hn81 := fun W => no81 W 91 (.pointer (some ⟨b, 0, none⟩)) (by decide)
 have hn82 := fun W => no82 W 91 (.pointer (some ⟨b, 0, none⟩)) (by decide)
 have hn4 := fun W => no4 W 91 (.pointer (some ⟨b, 0, none⟩)) (by decide)
 have hn65 := fun W => no65 W 91 (.pointer (some ⟨b, 0, none⟩)) (by decide)
 have hn83 := fun W => no83 W 91 (.pointer (some ⟨b, 0, none⟩)) (by decide)
 have hn21 := fun W => no21 W 91 (.pointer (some ⟨b, 0, none⟩)) (by decide)
 have hn84 := fun W => no84 W 91 (.pointer (some ⟨b, 0, none⟩)) (by decide)
 have hn2 := fun W => no2 W 91 (.pointer (some ⟨b, 0, none⟩)) (by decide)
 have hn28 := fun W => no28 W 91 (.pointer (some ⟨b, 0, none⟩)) (by decide)
 have hn85 := fun W => no85 W 91 (.pointer (some ⟨b, 0, none⟩)) (by decide)
 have hn9 := fun W => no9 W 91 (.pointer (some ⟨b, 0, none⟩)) (by decide)
 have hn86 := fun W => no86 W 91 (.pointer (some ⟨b, 0, none⟩)) (by decide)
 have hn42 := fun W => no42 W 91 (.pointer (some ⟨b, 0, none⟩)) (by decide)
 have hn88 := fun W => no88 W 91 (.pointer (some ⟨b, 0, none⟩)) (by decide)
 have hn89 := fun W => no89 W 91 (.pointer (some ⟨b, 0, none⟩)) (by decide)
 have hn90 := fun W => no90 W 91 (.pointer (some ⟨b, 0, none⟩)) (by decide)
 have hn44 := fun W => no44 W 91 (.pointer (some ⟨b, 0, none⟩)) (by decide)
 have hn52 := fun W => no52 W 91 (.pointer (some ⟨b, 0, none⟩)) (by decide)
 have hy := fun W => yes91 W (.pointer (some ⟨b, 0, none⟩))
 have hc0 : w.cell? ⟨b, 0, none⟩ = some (.string e) := (blk_cell hb 0).trans rfl
 clear hb
 go_enter Tryd.func27, Tryd.ntmps27
 go_wp2_with (first
  | (go_at_call 44; (with_reducible refine (dbus_zzSliceOf.calls e ((⟨#[91]⟩ : ByteArray) ++ e) _ (by unfold dbus_zzSliceOf.f; rw [if_pos (by omega)])).mono ?_); rintro e_ w4 ⟨rfl, ⟨nd4, rfl⟩⟩))
 go_ret
 exact ⟨_, rfl, by rw [B_append]; rfl, pw_below_drewN (Below.refl _ _) _⟩

set_option maxHeartbeats 2000000 in
set_option maxRecDepth 100000 in
theorem zt_dict (b : Nat) (k e : ByteArray) (ks vs : Value) (hk : k.size ≤ 300) (he : e.size ≤ 300) (w : World) (hb : w.heap[b]? = some (.cells #[.string k, .string e, ks, vs] 98 (0, 0))) : Calls Tryd.prog 27 #[.iface 95 (.pointer (some ⟨b, 0, none⟩))] w (ZPost (123 :: (B k ++ B e)) w) := by
 have hn5 := fun W => no5 W 95 (.pointer (some ⟨b, 0, none⟩)) (by decide)
 have hn80 := fun W => no80 W 95 (.pointer (some ⟨b, 0, none⟩)) (by decide)
 have hn81 := fun W => no81 W 95 (.pointer (some ⟨b, 0, none⟩)) (by decide)
 have hn82 := fun W => no82 W 95 (.pointer (some ⟨b, 0, none⟩)) (by decide)
 have hn4 := fun W => no4 W 95 (.pointer (some ⟨b, 0, none⟩)) (by decide)
 have hn65 := fun W => no65 W 95 (.pointer (some ⟨b, 0, none⟩)) (by decide)
 have hn83 := fun W => no83 W 95 (.pointer (some ⟨b, 0, none⟩)) (by decide)
 have hn21 := fun W => no21 W 95 (.pointer (some ⟨b, 0, none⟩)) (by decide)
 have hn84 := fun W => no84 W 95 (.pointer (some ⟨b, 0, none⟩)) (by decide)
 have hn2 := fun W => no2 W 95 (.pointer (some ⟨b, 0, none⟩)) (by decide)
 have hn28 := fun W => no28 W 95 (.pointer (some ⟨b, 0, none⟩)) (by decide)
 have hn85 := fun W => no85 W 95 (.pointer (some ⟨b, 0, none⟩)) (by decide)
 have hn9 := fun W => no9 W 95 (.pointer (some ⟨b, 0, none⟩)) (by decide)
 have hn86 := fun W => no86 W 95 (.pointer (some ⟨b, 0, none⟩)) (by decide)
 have hn42 := fun W => no42 W 95 (.pointer (some ⟨b, 0, none⟩)) (by decide)
 have hn88 := fun W => no88 W 95 (.pointer (some ⟨b, 0, none⟩)) (by decide)
 have hn89 := fun W => no89 W 95 (.pointer (some ⟨b, 0, none⟩)) (by decide)
 have hn90 := fun W => no90 W 95 (.pointer (some ⟨b, 0, none⟩)) (by decide)
 have hn44 := fun W => no44 W 95 (.pointer (some ⟨b, 0, none⟩)) (by decide)
 have hn52 := fun W => no52 W 95 (.pointer (some ⟨b, 0, none⟩)) (by decide)
 have hn91 := fun W => no91 W 95 (.pointer (some ⟨b, 0, none⟩)) (by decide)
 have hy := fun W => yes95 W (.pointer (some ⟨b, 0, none⟩))
 have BK := Aside0.mk hb
 clear hb
 go_enter Tryd.func27, Tryd.ntmps27
 go_wp2
 refine start_ (n := 10) (S := fun w' => w'.cell? ⟨b, 0, none⟩ = some (.string k) ∧ w'.cell? ⟨b, 1, none⟩ = some (.string e)) (ds := []) #[false, false, false, false, false, false, false, false, false, false] (by kernel_rfl) rfl rfl ⟨(blk_cell (blk_drew BK.out) 0).trans rfl, (blk_cell (blk_drew BK.out) 1).trans rfl⟩ (fun hHeld => ?_); refine with_tabW tab27_61 bits27_61 (fun HT_ HW_ => ?_)
 refine pure_ (i := 0) (N := some 101) (v := ?_) (a' := ?_) #[true, false, false, false, false, false, false, false, false, false] rfl rfl (any_of HT_.out (by kernel_rfl)) (fun _ _ _ h => h) (Or.inl ⟨by rfl, ?_⟩) ?_ ?_
 rotate_left
 ·intro w_
  go_simp
  with_reducible rfl
 rotate_left
 ·simp only [Act.put, List.setIfInBounds_toArray, List.set_cons_zero, List.set_cons_succ, i64_w, i32_w]
  rfl
 refine pure_ (i := 1) (N := some 102) (v := ?_) (a' := ?_) #[true, true, false, false, false, false, false, false, false, false] rfl rfl (any_of HT_.out (by kernel_rfl)) (fun _ _ _ h => h) (Or.inl ⟨by rfl, ?_⟩) ?_ ?_
 rotate_left
 ·intro w_
  go_simp
  with_reducible rfl
 rotate_left
 ·simp only [Act.put, List.setIfInBounds_toArray, List.set_cons_zero, List.set_cons_succ, i64_w, i32_w]
  rfl
 refine pure_ (i := 2) (N := some 103) (v := ?_) (a' := ?_) #[true, true, true, false, false, false, false, false, false, false] rfl rfl (any_of HT_.out (by kernel_rfl)) (fun _ _ _ h => h) (Or.inl ⟨by rfl, ?_⟩) ?_ ?_
 rotate_left
 ·intro w_
  go_simp
  with_reducible rfl
 rotate_left
 ·simp only [Act.put, List.setIfInBounds_toArray, List.set_cons_zero, List.set_cons_succ, i64_w, i32_w]
  rfl
 refine take_ (i := 3) (N := some 104) (v := ?_) (a' := ?_) #[true, true, true, true, false, false, false, false, false, false] rfl rfl (take_ofW HT_.out HW_.out (by kernel_rfl)) (fun _ _ _ h => h) (Or.inl ⟨by rfl, ?_⟩) hHeld ?_ ?_
 rotate_left
 ·rintro w_ ⟨s0, s1⟩
  go_simp
  with_reducible rfl
 rotate_left
 ·simp only [Act.put, List.setIfInBounds_toArray, List.set_cons_zero, List.set_cons_succ, i64_w, i32_w]
  rfl
 refine pure_ (i := 4) (N := some 105) (v := ?_) (a' := ?_) #[true, true, true, true, true, false, false, false, false, false] rfl rfl (any_of HT_.out (by kernel_rfl)) (fun _ _ _ h => h) (Or.inl ⟨by rfl, ?_⟩) ?_ ?_
 rotate_left
 ·intro w_
  go_simp
  with_reducible rfl
 rotate_left
 ·simp only [Act.put, List.setIfInBounds_toArray, List.set_cons_zero, List.set_cons_succ, i64_w, i32_w]
  rfl
 refine pure_ (i := 5) (N := some 106) (v := ?_) (a' := ?_) #[true, true, true, true, true, true, false, false, false, false] rfl rfl (any_of HT_.out (by kernel_rfl)) (fun _ _ _ h => h) (Or.inl ⟨by rfl, ?_⟩) ?_ ?_
 rotate_left
 ·intro w_
  go_simp
  with_reducible rfl
 rotate_left
 ·simp only [Act.put, List.setIfInBounds_toArray, List.set_cons_zero, List.set_cons_succ, i64_w, i32_w]
  rfl
 refine pure_ (i := 6) (N := some 107) (v := ?_) (a' := ?_) #[true, true, true, true, true, true, true, false, false, false] rfl rfl (any_of HT_.out (by kernel_rfl)) (fun _ _ _ h => h) (Or.inl ⟨by rfl, ?_⟩) ?_ ?_
 rotate_left
 ·intro w_
  go_simp
  with_reducible rfl
 rotate_left
 ·simp only [Act.put, List.setIfInBounds_toArray, List.set_cons_zero, List.set_cons_succ, i64_w, i32_w]
  rfl
 refine take_ (i := 7) (N := some 108) (v := ?_) (a' := ?_) #[true, true, true, true, true, true, true, true, false, false] rfl rfl (take_ofW HT_.out HW_.out (by kernel_rfl)) (fun _ _ _ h => h) (Or.inl ⟨by rfl, ?_⟩) hHeld ?_ ?_
 rotate_left
 ·rintro w_ ⟨s0, s1⟩
  go_simp
  with_reducible rfl
 rotate_left
 ·simp only [Act.put, List.setIfInBounds_toArray, List.set_cons_zero, List.set_cons_succ, i64_w, i32_w]
  rfl
 refine one_ (i := 8) (N := some 109) #[true, true, true, true, true, true, true, true, true, false] rfl rfl (one_of HT_.out (by kernel_rfl)) (by decide) (fun K hK => ?_)
 refine goes_ Tryd.func45 (by kernel_rfl) rfl #[.string k, .string e] (by rfl) rfl rfl (by (try simp only [List.map_toArray, List.map_cons, List.map_nil]); first | done | rfl) ?_
 with_reducible refine (dbus_zzMapOf.calls k e (((⟨#[123]⟩ : ByteArray) ++ k) ++ e) _ (map_is k e hk he)).mono ?_
 rintro e_ w4 ⟨rfl, ⟨nd4, rfl⟩⟩
 refine ⟨_, rfl, ?_⟩
 refine hK.out _ _ ⟨(blk_cell (blk_drewN (blk_drew BK.out) nd4) 0).trans rfl, (blk_cell (blk_drewN (blk_drew BK.out) nd4) 1).trans rfl⟩ (fun hHeld => ?_)
 clear hK K
 refine norm_ (a' := ?_) ?_ ?_
 rotate_left
 ·show Act.put _ (some 109) _ = _
  simp only [Act.put, List.setIfInBounds_toArray, List.set_cons_zero, List.set_cons_succ, i64_w, i32_w]
  rfl
 refine pure_ (i := 9) (N := some 2) (v := ?_) (a' := ?_) #[true, true, true, true, true, true, true, true, true, true] rfl rfl (any_of HT_.out (by kernel_rfl)) (fun _ _ _ h => h) (Or.inl ⟨by rfl, ?_⟩) ?_ ?_
 rotate_left
 ·intro w_
  go_simp
  with_reducible rfl
 rotate_left
 ·simp only [Act.put, List.setIfInBounds_toArray, List.set_cons_zero, List.set_cons_succ, i64_w, i32_w]
  rfl
 refine done_ (done_of HT_.out (by kernel_rfl)) ?_
 go_wp2
 go_ret
 exact ⟨_, rfl, by rw [B_append, B_append]; rfl, pw_below_drewN (below_drew1 (Below.refl _ _)) _⟩

theorem own_cells {w : World} {base : Nat} {e : TypeId} {v : Value} {us : List Value} (h : w.ownsRow base e 1 v us.length us) : ∃ A c, v = .slice A us.length c ∧ us.length ≤ 9223372036854775807 ∧ us.length ≤ c ∧ ∀ i u, us[i]? = some u → ∃ ad, A = some ad ∧ ad.block < w.heap.size ∧ w.cell? (ad.add i) = some u := by
 rcases h.2 with ⟨rfl, h0⟩ | ⟨g, cap, cur, rfl, hg, hh, hn, hm, hs, ht⟩
 ·refine ⟨none, 0, by rw [h0], by omega, by omega, fun i u hu => ?_⟩
  have := (List.getElem?_eq_some_iff.1 hu).1
  omega
 ·refine ⟨some ⟨g, 0, none⟩, cap, rfl, by unfold maxLen at hm; omega, hn, fun i u hu => ⟨⟨g, 0, none⟩, rfl, (Array.getElem?_eq_some_iff.1 hh).1, ?_⟩⟩
  rw [add_at, Nat.zero_add, blk_cell hh i]
  rw [← ht, Nat.mul_one] at hu
  rw [List.getElem?_take] at hu
  split at hu
  ·simpa using hu
  ·cases hu

set_option maxHeartbeats 4000000 in
set_option maxRecDepth 100000 in
theorem zt_rcd {base : Nat} (w0 : World) (v : Value) (us : List Value) (gs : List (List UInt8)) (ho : w0.ownsRow base 20 1 v us.length us) (hl : us.length = gs.length)
  (ih : ∀ (i : Nat) (u : Value) (g : List UInt8), us[i]? = some u → gs[i]? = some g → g.length ≤ 300 → ∀ W, Below w0.heap.size w0 W → Calls Tryd.prog 27 #[u] W (ZPost g W))
  (hs : (40 :: (gs.flatten ++ [41])).length ≤ 300) (w : World) (hb : Below w0.heap.size w0 w) : Calls Tryd.prog 27 #[.iface 100 (.agg #[v])] w (ZPost (40 :: (gs.flatten ++ [41])) w) := by
 obtain ⟨A, c, rfl, hm, hc, hcell⟩ := own_cells ho
 have HC := Aside0.mk hcell
 have IH := Aside0.mk ih
 have HW := Aside0.mk hb
 have HL := Aside0.mk hl
 have hfl : gs.flatten.length ≤ 298 := by simpa using hs
 obtain ⟨n, hn⟩ : ∃ n, n = us.length := ⟨_, rfl⟩
 have HN := Aside0.mk hn
 rw [← hn] at hm hc ⊢
 have hn5 := fun W => no5 W 100 (.agg #[.slice A n c]) (by decide)
 have hn80 := fun W => no80 W 100 (.agg #[.slice A n c]) (by decide)
 have hn81 := fun W => no81 W 100 (.agg #[.slice A n c]) (by decide)
 have hn82 := fun W => no82 W 100 (.agg #[.slice A n c]) (by decide)
 have hn4 := fun W => no4 W 100 (.agg #[.slice A n c]) (by decide)
 have hn65 := fun W => no65 W 100 (.agg #[.slice A n c]) (by decide)
 have hn83 := fun W => no83 W 100 (.agg #[.slice A n c]) (by decide)
 have hn21 := fun W => no21 W 100 (.agg #[.slice A n c]) (by decide)
 have hn84 := fun W => no84 W 100 (.agg #[.slice A n c]) (by decide)
 have hn2 := fun W => no2 W 100 (.agg #[.slice A n c]) (by decide)
 have hn28 := fun W => no28 W 100 (.agg #[.slice A n c]) (by decide)
 have hn85 := fun W => no85 W 100 (.agg #[.slice A n c]) (by decide)
 have hn9 := fun W => no9 W 100 (.agg #[.slice A n c]) (by decide)
 have hn86 := fun W => no86 W 100 (.agg #[.slice A n c]) (by decide)
 have hn42 := fun W => no42 W 100 (.agg #[.slice A n c]) (by decide)
 have hn88 := fun W => no88 W 100 (.agg #[.slice A n c]) (by decide)
 have hn89 := fun W => no89 W 100 (.agg #[.slice A n c]) (by decide)
 have hn90 := fun W => no90 W 100 (.agg #[.slice A n c]) (by decide)
 have hn44 := fun W => no44 W 100 (.agg #[.slice A n c]) (by decide)
 have hn52 := fun W => no52 W 100 (.agg #[.slice A n c]) (by decide)
 have hn91 := fun W => no91 W 100 (.agg #[.slice A n c]) (by decide)
 have hn95 := fun W => no95 W 100 (.agg #[.slice A n c]) (by decide)
 have hy := fun W => yes100 W (.agg #[.slice A n c])
 clear ho hl ih hb hcell hs hn
 go_enter Tryd.func27, Tryd.ntmps27
 go_wp2
 go_loopw [24, 26, 116] (fun v24 _ v116 wr => ∃ (j : Nat) (acc : ByteArray), v116 = .int .i64 j ∧ v24 = .string acc ∧ j ≤ n ∧ Aside0 (B acc = 40 :: (gs.take j).flatten) ∧ Aside0 (Below w.heap.size w wr)) (fun _ _ v116 _ => n - (intOf v116).toNat)
 case atStart => exact ⟨0, ⟨#[40]⟩, rfl, rfl, Nat.zero_le _, ⟨rfl⟩, ⟨by repeat (first | exact Below.refl _ _ | refine below_set ?_ (Nat.le_refl _) | apply below_alloc)⟩⟩
 case round =>
  obtain ⟨j, acc, rfl, rfl, hj, HA, HB⟩ := hrel
  have htl : ((gs.take j).flatten).length ≤ gs.flatten.length := by
   conv => rhs; rw [← List.take_append_drop j gs, List.flatten_append, List.length_append]
   omega
  have hac : acc.size ≤ 299 := by rw [← B_length, HA.out]; simp only [List.length_cons]; omega
  by_cases hjl : j < n
  ·have hju : j < us.length := by have := HN.out; omega
   have hjg : j < gs.length := by have := HL.out; omega
   obtain ⟨ad, rfl, hadl, hcl⟩ := HC.out j (us[j]'hju) (List.getElem?_eq_getElem hju)
   have hb1 := HW.out
   have hx : wr.cell? (ad.add j) = some (us[j]'hju) := by
    have e1 := hb1.cell (World.block_lt_of_cell? w0 _ hcl)
    have e2 := HB.out.cell (World.block_lt_of_cell? w _ (e1.trans hcl))
    rw [e2, e1, hcl]
   have hgl : (gs[j]'hjg).length ≤ gs.flatten.length := by
    have := List.length_flatten (L := gs)
    exact List.Sublist.length_le (List.sublist_flatten_of_mem (List.getElem_mem hjg))
   have HG : Aside0 ((gs[j]'hjg).length ≤ 298) := ⟨by omega⟩
   have IHJ := Aside0.mk (IH.out j (us[j]'hju) (gs[j]'hjg) (List.getElem?_eq_getElem hju) (List.getElem?_eq_getElem hjg) (by omega))
   have HB0 : Aside0 (Below w0.heap.size w0 wr) := ⟨below_step HW.out HB.out⟩
   have HTK : Aside0 ((gs.take (j + 1)).flatten = (gs.take j).flatten ++ gs[j]'hjg) := ⟨by rw [List.take_succ_eq_append_getElem hjg, List.flatten_append]; simp⟩
   generalize hu0 : us[j]'hju = u0 at hx IHJ
   generalize hg0 : gs[j]'hjg = g0 at HG IHJ HTK
   have p1 : ((0 : Int) ≤ (j : Int)) = True := eq_true (by omega)
   have q1 : ((j : Int) < (n : Int)) = True := eq_true (by omega)
   have q2 : (j < n) = True := eq_true hjl
   clear hu0 hg0 hgl hcl hb1 hadl htl
   go_wp2_with (first
    | (go_at_call 27; (with_reducible refine (IHJ.out _ HB0.out).mono ?_); rintro e_ w4 ⟨r4, rfl, hr4, hb4⟩; have HR4 := Aside0.mk hr4; have HB4 := Aside0.mk hb4; have hr4s : r4.size ≤ 298 := (by rw [← B_length, hr4]; exact HG.out); clear hr4 hb4))
   go_roundw
   case rel => exact ⟨j + 1, _, by go_num, rfl, by omega, ⟨by rw [B_append, HA.out, HR4.out, HTK.out]; rfl⟩, ⟨below_step HB.out HB4.out⟩⟩
   case measure => simp [intOf]; omega
  ·obtain rfl : n = j := by omega
   have HE : Aside0 (gs.take n = gs) := ⟨List.take_of_length_le (by have := HN.out; have := HL.out; omega)⟩
   go_wp2
   go_ret
   exact ⟨_, rfl, by rw [B_append, HA.out, HE.out]; rfl, HB.out⟩

/-- zzTypeOf, at every value. -/
theorem typeOf {W : World} {base : Nat} {ok : Nat → Prop} {u : Value} {g : List UInt8} (h : Bx W base ok u g) : g.length ≤ 300 → ∀ w, Below W.heap.size W w → Calls Tryd.prog 27 #[u] w (ZPost g w) := by
 induction h with
 | leaf t v c h =>
  intro _ w _
  cases h with
  | y n => exact zt_y n w
  | b n => exact zt_b n w
  | n n => exact zt_n n w
  | q n => exact zt_q n w
  | i n => exact zt_i n w
  | u n => exact zt_u n w
  | x n => exact zt_x n w
  | t n => exact zt_t n w
  | d n => exact zt_d n w
  | s n => exact zt_s n w
  | o n => exact zt_o n w
  | g n => exact zt_g n w
  | v n t u => exact zt_v n t u w
  | h n => exact zt_h n w
 | list b e k h1 h2 h3 =>
  intro hs w hb
  exact zt_list b e k (by simp only [List.length_cons, B_length] at hs; omega) w (blk_below h3 hb)
 | dict b k e ks vs h1 h2 h3 =>
  intro hs w hb
  simp only [List.length_cons, List.length_append, B_length] at hs
  exact zt_dict b k e ks vs (by omega) (by omega) w (blk_below h3 hb)
 | rcd v us gs h1 h2 h3 h4 ih =>
  intro hs w hb
  exact zt_rcd _ v us gs h2 h3 (fun i u g hu hg => ih i u g hu hg) hs w hb
end Go.Proofs.YtoaehanfknjngaaDoor.Zt
