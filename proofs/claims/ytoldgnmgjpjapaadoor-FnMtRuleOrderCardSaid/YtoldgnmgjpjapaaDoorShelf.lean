/-
Contracts of the library (strings.Join, strconv.Itoa), laid at this program's numbers (written by the kit's tools lay-shelf and lay-plain).
-/
import Derived.Shelf.Strings.Builder1
import Derived.Shelf.Strings.Builder2
import Derived.Shelf.Strings.OnBuilder
import Derived.Shelf.Strconv.Itoa0
import Derived.Shelf.Strconv.Itoa1
import Derived.Shelf.LaysM
import Derived.Shelf.Strconv.Itoa2
import Derived.Shelf.Strconv.Itoa3
import Derived.Test.YtoldgnmgjpjapaaDoorProg
namespace Go.Proofs
open Go.Shelf
def Tryd.lays156_ren : Go.Shelf.Ren := ⟨fun | 156 => 39 | 165 => 43 | 166 => 44 | 169 => 45 | 240 => 48 | 241 => 49 | 276 => 51 | 277 => 52 | n => n, fun | 31 => 23 | 9 => 9 | 3 => 3 | 4 => 4 | 0 => 0 | 20 => 20 | 72 => 81 | 76 => 85 | 70 => 79 | 37 => 22 | 75 => 84 | 127 => 88 | 164 => 90 | 5 => 5 | 80 => 87 | n => n, fun | n => n⟩
theorem Tryd.lays156 : Go.Proofs.Lays.n156 Tryd.prog Tryd.lays156_ren := {
  mixed := by kernel_rfl
  f156 := Tryd.func39.trans (congrArg some (by kernel_rfl))
  f165 := Tryd.func43.trans (congrArg some (by kernel_rfl))
  f166 := Tryd.func44.trans (congrArg some (by kernel_rfl))
  f169 := Tryd.func45.trans (congrArg some (by kernel_rfl))
  f240 := Tryd.func48.trans (congrArg some (by kernel_rfl))
  f241 := Tryd.func49.trans (congrArg some (by kernel_rfl))
  f276 := Tryd.func51.trans (congrArg some (by kernel_rfl))
  f277 := Tryd.func52.trans (congrArg some (by kernel_rfl))
  t0 := Tryd.underlying0
  a0 := Tryd.isAgg0
  z0 := Tryd.sizeOf0
  v0 := Tryd.zeroValue0
  t3 := Tryd.underlying3
  a3 := Tryd.isAgg3
  z3 := Tryd.sizeOf3
  v3 := Tryd.zeroValue3
  t4 := Tryd.underlying4
  a4 := Tryd.isAgg4
  z4 := Tryd.sizeOf4
  v4 := Tryd.zeroValue4
  t9 := Tryd.underlying9
  a9 := Tryd.isAgg9
  z9 := Tryd.sizeOf9
  v9 := Tryd.zeroValue9
  t20 := Tryd.underlying20
  a20 := Tryd.isAgg20
  z20 := Tryd.sizeOf20
  v20 := Tryd.zeroValue20
  t31 := Tryd.underlying23
  a31 := Tryd.isAgg23
  z31 := Tryd.sizeOf23
  v31 := Tryd.zeroValue23
  t37 := Tryd.underlying22
  a37 := Tryd.isAgg22
  z37 := Tryd.sizeOf22
  v37 := Tryd.zeroValue22
  t70 := Tryd.underlying79
  a70 := Tryd.isAgg79
  z70 := Tryd.sizeOf79
  v70 := Tryd.zeroValue79
  t72 := Tryd.underlying81
  a72 := Tryd.isAgg81
  z72 := Tryd.sizeOf81
  v72 := Tryd.zeroValue81
  t75 := Tryd.underlying84
  a75 := Tryd.isAgg84
  z75 := Tryd.sizeOf84
  v75 := Tryd.zeroValue84
  t76 := Tryd.underlying85
  a76 := Tryd.isAgg85
  z76 := Tryd.sizeOf85
  v76 := Tryd.zeroValue85
  t127 := Tryd.underlying88
  a127 := Tryd.isAgg88
  z127 := Tryd.sizeOf88
  v127 := Tryd.zeroValue88
  t164 := Tryd.underlying90
  a164 := Tryd.isAgg90
  z164 := Tryd.sizeOf90
  v164 := Tryd.zeroValue90 }
theorem Tryd.Builder_Extra_156 : Builder.Extra Tryd.prog Tryd.lays156_ren := {
  sizeBuilder := by kernel_rfl
  liesBuilder := by kernel_rfl
  t5 := Tryd.underlying5
  a5 := Tryd.isAgg5
  z5 := Tryd.sizeOf5
  v5 := Tryd.zeroValue5
  infoByte := by kernel_rfl
  cellsByte := by kernel_rfl
  sizeByte := by kernel_rfl
  neB5 := by decide }
open Go.RowKit in
/-- No element: the empty string; the world is as it was. (Whatever the slice's address and capacity: a nil slice too.) (LAID: no walk: one application.) -/
theorem Tryd.strings_Join_none (a : Option Addr) (c : Nat) (sep : ByteArray) (w : World) :
    Calls Tryd.prog 39 #[.slice a 0 c, .string sep] w fun e w' => e = .returned (.string ⟨#[]⟩) ∧ w' = w := Any.strings_Join_none Tryd.lays156 Tryd.Builder_Extra_156 a c sep w
open Go.RowKit in
/-- strings.Join: "Join concatenates the elements of its first argument to create a single string. The separator string sep is placed between elements in the resulting string.": HOWEVER MANY ELEMENTS. Below the heap's end the world is as it was. (LAID: no walk: one application.) -/
theorem Tryd.strings_Join (bk o c : Nat) (xs : List ByteArray) (sep : ByteArray) (w : World) (hcells : ∀ (j : Nat) x, xs[j]? = some x → w.cell? ⟨bk, o + j, none⟩ = some (.string x)) (hbk : bk < w.heap.size) (hN : xs.length ≤ 140737488355328) (hcap : xs.length ≤ c) (hlen : (Lib.join (xs.map (·.data.toList)) sep.data.toList).length ≤ 140737488355328) :
    Calls Tryd.prog 39 #[.slice (some ⟨bk, o, none⟩) xs.length c, .string sep] w fun e w' => e = .returned (.string ⟨(Lib.join (xs.map (·.data.toList)) sep.data.toList).toArray⟩) ∧ Below w.heap.size w w' := Any.strings_Join Tryd.lays156 Tryd.Builder_Extra_156 bk o c xs sep w hcells hbk hN hcap hlen
def Tryd.lays171_ren : Go.Shelf.Ren := ⟨fun | 171 => 40 | 243 => 46 | 246 => 50 | 283 => 53 | 284 => 54 | 285 => 55 | 286 => 56 | 129 => 58 | 317 => 57 | 318 => 59 | 319 => 60 | 320 => 61 | 337 => 62 | 338 => 63 | n => n, fun | 3 => 3 | 9 => 9 | 2 => 2 | 4 => 4 | 171 => 93 | 0 => 0 | 53 => 61 | 37 => 22 | 5 => 5 | 173 => 96 | 212 => 100 | 51 => 24 | 20 => 20 | 213 => 101 | 46 => 103 | 232 => 106 | 233 => 107 | n => n, fun | 17 => 1 | 18 => 2 | 19 => 3 | n => n⟩
theorem Tryd.lays171 : Go.Proofs.Lays.n171 Tryd.prog Tryd.lays171_ren := {
  mixed := by kernel_rfl
  f129 := Tryd.func58.trans (congrArg some (by kernel_rfl))
  f171 := Tryd.func40.trans (congrArg some (by kernel_rfl))
  f243 := Tryd.func46.trans (congrArg some (by kernel_rfl))
  f246 := Tryd.func50.trans (congrArg some (by kernel_rfl))
  f283 := Tryd.func53.trans (congrArg some (by kernel_rfl))
  f284 := Tryd.func54.trans (congrArg some (by kernel_rfl))
  f285 := Tryd.func55.trans (congrArg some (by kernel_rfl))
  f286 := Tryd.func56.trans (congrArg some (by kernel_rfl))
  f317 := Tryd.func57.trans (congrArg some (by kernel_rfl))
  f318 := Tryd.func59.trans (congrArg some (by kernel_rfl))
  f319 := Tryd.func60.trans (congrArg some (by kernel_rfl))
  f320 := Tryd.func61.trans (congrArg some (by kernel_rfl))
  f337 := Tryd.func62.trans (congrArg some (by kernel_rfl))
  f338 := Tryd.func63.trans (congrArg some (by kernel_rfl))
  t0 := Tryd.underlying0
  a0 := Tryd.isAgg0
  z0 := Tryd.sizeOf0
  v0 := Tryd.zeroValue0
  t2 := Tryd.underlying2
  a2 := Tryd.isAgg2
  z2 := Tryd.sizeOf2
  v2 := Tryd.zeroValue2
  t3 := Tryd.underlying3
  a3 := Tryd.isAgg3
  z3 := Tryd.sizeOf3
  v3 := Tryd.zeroValue3
  t4 := Tryd.underlying4
  a4 := Tryd.isAgg4
  z4 := Tryd.sizeOf4
  v4 := Tryd.zeroValue4
  t5 := Tryd.underlying5
  a5 := Tryd.isAgg5
  z5 := Tryd.sizeOf5
  v5 := Tryd.zeroValue5
  t9 := Tryd.underlying9
  a9 := Tryd.isAgg9
  z9 := Tryd.sizeOf9
  v9 := Tryd.zeroValue9
  t20 := Tryd.underlying20
  a20 := Tryd.isAgg20
  z20 := Tryd.sizeOf20
  v20 := Tryd.zeroValue20
  t37 := Tryd.underlying22
  a37 := Tryd.isAgg22
  z37 := Tryd.sizeOf22
  v37 := Tryd.zeroValue22
  t46 := Tryd.underlying103
  a46 := Tryd.isAgg103
  z46 := Tryd.sizeOf103
  v46 := Tryd.zeroValue103
  t51 := Tryd.underlying24
  a51 := Tryd.isAgg24
  z51 := Tryd.sizeOf24
  v51 := Tryd.zeroValue24
  t53 := Tryd.underlying61
  a53 := Tryd.isAgg61
  z53 := Tryd.sizeOf61
  v53 := Tryd.zeroValue61
  t171 := Tryd.underlying93
  a171 := Tryd.isAgg93
  z171 := Tryd.sizeOf93
  v171 := Tryd.zeroValue93
  t173 := Tryd.underlying96
  a173 := Tryd.isAgg96
  z173 := Tryd.sizeOf96
  v173 := Tryd.zeroValue96
  t212 := Tryd.underlying100
  a212 := Tryd.isAgg100
  z212 := Tryd.sizeOf100
  v212 := Tryd.zeroValue100
  t213 := Tryd.underlying101
  a213 := Tryd.isAgg101
  z213 := Tryd.sizeOf101
  t232 := Tryd.underlying106
  a232 := Tryd.isAgg106
  z232 := Tryd.sizeOf106
  v232 := Tryd.zeroValue106
  t233 := Tryd.underlying107
  a233 := Tryd.isAgg107
  z233 := Tryd.sizeOf107
  v233 := Tryd.zeroValue107
  g17 := by kernel_rfl
  g18 := by kernel_rfl
  g19 := by kernel_rfl }
open Go.RowKit Go.Sort Go.Lib in
/-- THE ROAD WITHOUT THE TABLE: 0 <= i < 100: NO PREMISE ON THE WORLD, AND THE WORLD IS AS IT WAS: a row that keeps its argument in that range need list no table ('laid = []'). (LAID: no walk: one application.) -/
theorem Tryd.strconv_Itoa_small (i : Nat) (hi : i < 100) (w : World) :
    Calls Tryd.prog 40 #[.int .i64 i] w fun e w' => e = .returned (.string ⟨(Lib.decDigits i).toArray⟩) ∧ w' = w := Any.strconv_Itoa_small Tryd.lays171 i hi w
end Go.Proofs

