/-
The contract of strconv.Quote, laid at this program.
-/
import Derived.Test.YthhehbocbhhbbaaDoorProg
import Derived.Shelf.Strconv.Quote
namespace Go.Proofs
open Go.Shelf
def Tryd.lays177_ren : Go.Shelf.Ren := ⟨fun | 177 => 10 | 250 => 16 | 289 => 20 | 197 => 21 | 323 => 26 | 260 => 27 | 339 => 34 | 340 => 35 | 242 => 31 | 119 => 36 | 345 => 47 | 346 => 48 | 278 => 40 | n => n, fun | 9 => 9 | 5 => 5 | 4 => 4 | 3 => 3 | 37 => 31 | 21 => 21 | 105 => 49 | 46 => 34 | 119 => 70 | 0 => 0 | 139 => 73 | 138 => 72 | 49 => 79 | 234 => 80 | 131 => 64 | 51 => 62 | 236 => 82 | n => n, fun | 3 => 0 | 4 => 1 | 20 => 3 | 21 => 4 | 22 => 5 | 23 => 6 | 24 => 7 | n => n⟩
theorem Tryd.lays177 : Go.Proofs.Lays.n177 Tryd.prog Tryd.lays177_ren := {
  mixed := by kernel_rfl
  f119 := Tryd.func36.trans (congrArg some (by kernel_rfl))
  f177 := Tryd.func10.trans (congrArg some (by kernel_rfl))
  f197 := Tryd.func21.trans (congrArg some (by kernel_rfl))
  f242 := Tryd.func31.trans (congrArg some (by kernel_rfl))
  f250 := Tryd.func16.trans (congrArg some (by kernel_rfl))
  f260 := Tryd.func27.trans (congrArg some (by kernel_rfl))
  f278 := Tryd.func40.trans (congrArg some (by kernel_rfl))
  f289 := Tryd.func20.trans (congrArg some (by kernel_rfl))
  f323 := Tryd.func26.trans (congrArg some (by kernel_rfl))
  f339 := Tryd.func34.trans (congrArg some (by kernel_rfl))
  f340 := Tryd.func35.trans (congrArg some (by kernel_rfl))
  f345 := Tryd.func47.trans (congrArg some (by kernel_rfl))
  f346 := Tryd.func48.trans (congrArg some (by kernel_rfl))
  t0 := Tryd.underlying0
  a0 := Tryd.isAgg0
  z0 := Tryd.sizeOf0
  v0 := Tryd.zeroValue0
  t3 := Tryd.underlying3
  a3 := Tryd.isAgg3
  z3 := Tryd.sizeOf3
  v3 := Tryd.zeroValue3
  t4 := Tryd.underlying4
  a4 := Tryd.isAgg4
  z4 := Tryd.sizeOf4
  v4 := Tryd.zeroValue4
  t5 := Tryd.underlying5
  a5 := Tryd.isAgg5
  z5 := Tryd.sizeOf5
  v5 := Tryd.zeroValue5
  t9 := Tryd.underlying9
  a9 := Tryd.isAgg9
  z9 := Tryd.sizeOf9
  v9 := Tryd.zeroValue9
  t21 := Tryd.underlying21
  a21 := Tryd.isAgg21
  z21 := Tryd.sizeOf21
  v21 := Tryd.zeroValue21
  t37 := Tryd.underlying31
  a37 := Tryd.isAgg31
  z37 := Tryd.sizeOf31
  v37 := Tryd.zeroValue31
  t46 := Tryd.underlying34
  a46 := Tryd.isAgg34
  z46 := Tryd.sizeOf34
  v46 := Tryd.zeroValue34
  t49 := Tryd.underlying79
  a49 := Tryd.isAgg79
  z49 := Tryd.sizeOf79
  v49 := Tryd.zeroValue79
  t51 := Tryd.underlying62
  a51 := Tryd.isAgg62
  z51 := Tryd.sizeOf62
  v51 := Tryd.zeroValue62
  t105 := Tryd.underlying49
  a105 := Tryd.isAgg49
  z105 := Tryd.sizeOf49
  v105 := Tryd.zeroValue49
  t119 := Tryd.underlying70
  a119 := Tryd.isAgg70
  z119 := Tryd.sizeOf70
  t131 := Tryd.underlying64
  a131 := Tryd.isAgg64
  z131 := Tryd.sizeOf64
  v131 := Tryd.zeroValue64
  t138 := Tryd.underlying72
  a138 := Tryd.isAgg72
  z138 := Tryd.sizeOf72
  v138 := Tryd.zeroValue72
  t139 := Tryd.underlying73
  a139 := Tryd.isAgg73
  z139 := Tryd.sizeOf73
  v139 := Tryd.zeroValue73
  t234 := Tryd.underlying80
  a234 := Tryd.isAgg80
  z234 := Tryd.sizeOf80
  v234 := Tryd.zeroValue80
  t236 := Tryd.underlying82
  a236 := Tryd.isAgg82
  z236 := Tryd.sizeOf82
  v236 := Tryd.zeroValue82
  g3 := by kernel_rfl
  g4 := by kernel_rfl
  g20 := by kernel_rfl
  g21 := by kernel_rfl
  g22 := by kernel_rfl
  g23 := by kernel_rfl
  g24 := by kernel_rfl }
open Go.RowKit in
/-- **strconv.Quote AT EVERY STRING, VALID UTF-8 OR NOT** (of at most some 2^43 bytes: ten bytes may come of one): 'strOfNums (Lib.quoteZ T s)': Derived/Lib/QuoteLoop.lean: a row of Lean a statement of Go. Of what was there nothing has turned. (LAID: no walk: one application.) -/
theorem Tryd.strconv_Quote (T : Lib.PrintTabs) (s : ByteArray) (w : World) (hlen : 10 * s.size + 12 ≤ 140737488355328) (hT : Lib.PrintTabsAt 3 4 5 6 T w) (hU : Lib.Utf8Tabs 0 1 w) :
    Calls Tryd.prog 10 #[.string s] w fun e w' => e = .returned (.string (strOfNums (Lib.quoteZ T s))) ∧ Below w.heap.size w w' := Any.strconv_Quote Tryd.lays177 (by kernel_rfl) T s w hlen hT hU
end Go.Proofs
