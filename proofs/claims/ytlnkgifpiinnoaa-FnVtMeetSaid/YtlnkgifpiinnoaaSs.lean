/-
The contract of sort.Strings, laid at this program.
-/
import Derived.Test.YtlnkgifpiinnoaaProg
import Derived.Shelf.Sort.Plain
import Derived.Shelf.Slices.In.SortNone2
namespace Go.Proofs
open Go.Shelf
def Try.lays192_ren : Go.Shelf.Ren := ⟨fun | 192 => 33 | 190 => 40 | 125 => 42 | 258 => 41 | 128 => 52 | 129 => 53 | 302 => 43 | 303 => 44 | 304 => 45 | 305 => 46 | 306 => 47 | 307 => 48 | 308 => 49 | 309 => 50 | 310 => 51 | 333 => 54 | 329 => 55 | 330 => 56 | 334 => 57 | 335 => 58 | 336 => 59 | 344 => 60 | n => n, fun | 31 => 25 | 0 => 0 | 9 => 9 | 3 => 3 | 46 => 69 | 51 => 80 | 53 => 82 | 4 => 4 | 183 => 72 | 182 => 71 | 131 => 77 | 5 => 5 | 218 => 83 | 222 => 87 | 228 => 89 | 229 => 90 | n => n, fun | n => n⟩
theorem Try.lays192 : Go.Proofs.Lays.n192 Try.prog Try.lays192_ren := {
  mixed := by kernel_rfl
  f125 := Try.func42.trans (congrArg some (by kernel_rfl))
  f128 := Try.func52.trans (congrArg some (by kernel_rfl))
  f129 := Try.func53.trans (congrArg some (by kernel_rfl))
  f190 := Try.func40.trans (congrArg some (by kernel_rfl))
  f192 := Try.func33.trans (congrArg some (by kernel_rfl))
  f258 := Try.func41.trans (congrArg some (by kernel_rfl))
  f302 := Try.func43.trans (congrArg some (by kernel_rfl))
  f303 := Try.func44.trans (congrArg some (by kernel_rfl))
  f304 := Try.func45.trans (congrArg some (by kernel_rfl))
  f305 := Try.func46.trans (congrArg some (by kernel_rfl))
  f306 := Try.func47.trans (congrArg some (by kernel_rfl))
  f307 := Try.func48.trans (congrArg some (by kernel_rfl))
  f308 := Try.func49.trans (congrArg some (by kernel_rfl))
  f309 := Try.func50.trans (congrArg some (by kernel_rfl))
  f310 := Try.func51.trans (congrArg some (by kernel_rfl))
  f329 := Try.func55.trans (congrArg some (by kernel_rfl))
  f330 := Try.func56.trans (congrArg some (by kernel_rfl))
  f333 := Try.func54.trans (congrArg some (by kernel_rfl))
  f334 := Try.func57.trans (congrArg some (by kernel_rfl))
  f335 := Try.func58.trans (congrArg some (by kernel_rfl))
  f336 := Try.func59.trans (congrArg some (by kernel_rfl))
  f344 := Try.func60.trans (congrArg some (by kernel_rfl))
  t0 := Try.underlying0
  a0 := Try.isAgg0
  z0 := Try.sizeOf0
  v0 := Try.zeroValue0
  t3 := Try.underlying3
  a3 := Try.isAgg3
  z3 := Try.sizeOf3
  v3 := Try.zeroValue3
  t4 := Try.underlying4
  a4 := Try.isAgg4
  z4 := Try.sizeOf4
  v4 := Try.zeroValue4
  t5 := Try.underlying5
  a5 := Try.isAgg5
  z5 := Try.sizeOf5
  v5 := Try.zeroValue5
  t9 := Try.underlying9
  a9 := Try.isAgg9
  z9 := Try.sizeOf9
  v9 := Try.zeroValue9
  t31 := Try.underlying25
  a31 := Try.isAgg25
  z31 := Try.sizeOf25
  v31 := Try.zeroValue25
  t46 := Try.underlying69
  a46 := Try.isAgg69
  z46 := Try.sizeOf69
  v46 := Try.zeroValue69
  t51 := Try.underlying80
  a51 := Try.isAgg80
  z51 := Try.sizeOf80
  v51 := Try.zeroValue80
  t53 := Try.underlying82
  a53 := Try.isAgg82
  z53 := Try.sizeOf82
  v53 := Try.zeroValue82
  t131 := Try.underlying77
  a131 := Try.isAgg77
  z131 := Try.sizeOf77
  v131 := Try.zeroValue77
  t182 := Try.underlying71
  a182 := Try.isAgg71
  z182 := Try.sizeOf71
  v182 := Try.zeroValue71
  t183 := Try.underlying72
  a183 := Try.isAgg72
  z183 := Try.sizeOf72
  v183 := Try.zeroValue72
  t218 := Try.underlying83
  a218 := Try.isAgg83
  z218 := Try.sizeOf83
  v218 := Try.zeroValue83
  t222 := Try.underlying87
  a222 := Try.isAgg87
  z222 := Try.sizeOf87
  v222 := Try.zeroValue87
  t228 := Try.underlying89
  a228 := Try.isAgg89
  z228 := Try.sizeOf89
  v228 := Try.zeroValue89
  t229 := Try.underlying90
  a229 := Try.isAgg90
  z229 := Try.sizeOf90
  v229 := Try.zeroValue90 }
open Go.Sort Go.RowKit in
theorem Try.sort_Strings (blk off cap : Nat) (ss : List (List UInt8)) (w : World) (hH : Holds encStr w blk off ss.toArray) (hblk : blk < w.heap.size) (hsz : ss.length < 4611686018427387904) :
    Calls Try.prog 33 #[.slice (some ⟨blk, off, none⟩) ss.length cap] w fun e w' =>
      e = .returned (.tuple #[]) ∧ ∃ n os, w' = grow (putRow encStr (Sort.ahead w n) blk off (ss.mergeSort fun x y => decide (x ≤ y)).toArray) os := Any.sort_Strings Try.lays192 blk off cap ss w hH hblk hsz
open Go.RowKit Go.Sort in
/-- .. and plain. (LAID: no walk: one application.) -/
theorem Try.sort_Strings_none (p : Option Addr) (cap : Nat) (w : World) :
    Calls Try.prog 33 #[.slice p 0 cap] w fun e w' => e = .returned (.tuple #[]) ∧ w' = w := Any.sort_Strings_none Try.lays192 p cap w
end Go.Proofs
