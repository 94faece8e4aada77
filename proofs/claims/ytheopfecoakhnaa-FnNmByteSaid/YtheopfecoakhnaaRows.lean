/-
  No cell of these rows narrows 'for every input' (looked for: loops, veiled, ifaces, maps, wideKeys, modest, calm, conditions, laid).
  DERIVED. THE GIVEN ROWS OF THIS SEAT. 3 by the template 'for every input the law returns true; each argument reads behind the call as it read before'; 0 by the template 'total and deterministic' (their statements: YtheopfecoakhnaaTotals.lean).
  GIVEN WITH THE SEED: the statements are not yours to turn. If you find one false, say at which input.
  Laid BY PROGRAM, IN A SANDBOX (cutbox-rows.mjs): the forced cells as the released guide's own fill.sh prints them over the translation fbf11a625128635f… (all of the seat's roots in one cut). By AI agents, Wed Nov 11 2026. No macro, syntax, notation, axiom, sorry.
-/
import Derived.Test.YtheopfecoakhnaaChecked
import GoSem.Claim
import GoSem.ClaimJoined
import GoSem.ClaimMapViews
import Derived.JoinedTies
import Derived.KernelRfl
namespace Go.Proofs.Ytheopfecoakhnaa
/- THE CELL 'sum', in the pinned program and in every row, IS THE sha256 OF THE DUMP (.gsa) THAT YtheopfecoakhnaaProg.lean LOADS. Nothing in Lean hashes anything: it is a label: what it is worth is what the hold of that sum in a sandbox is worth. -/
noncomputable def Try.pinned : Pinned := { name := "ytheopfecoakhnaa", sum := "fbf11a625128635ff4da637b1803c2207c54101973b6b3be79a52d5c45dc4e20", checked := Try.checked }
namespace Rows
def none {H : Type} : Left H := { results := [], args := [] }

/-- 'laws.FnNmPathParts': WHATEVER THE INPUT: true; the input reads as it did. -/
def fnNmPathPartsSpec : ChangeSpec := { name := "fnNmPathParts", fn := fun _ => fun
  | [d1, d2] => { results := [.lit (.bool true)], args := [d1, d2] }
  | _ => none }
def fnNmPathPartsRow : OpenClaim := { program := "ytheopfecoakhnaa", sum := "fbf11a625128635ff4da637b1803c2207c54101973b6b3be79a52d5c45dc4e20", func := "pub-barouche/laws.FnNmPathParts", spec := "fnNmPathParts", apart := false }
def FnNmPathPartsSaid : Prop := fnNmPathPartsRow.holds Try.pinned (OpenSpec.ofChange fnNmPathPartsSpec)

/-- ITS FALSE NEIGHBOUR: 'it returns false'. Refute it at one input. -/
def fnNmPathPartsWrong : ChangeSpec := { name := "fnNmPathParts", fn := fun _ => fun
  | [d1, d2] => { results := [.lit (.bool false)], args := [d1, d2] }
  | _ => none }
def FnNmPathPartsWrongFalsely : Prop := fnNmPathPartsRow.holds Try.pinned (OpenSpec.ofChange fnNmPathPartsWrong)

/-- 'laws.FnNmInterfaceParts': WHATEVER THE INPUT: true; the input reads as it did. -/
def fnNmInterfacePartsSpec : ChangeSpec := { name := "fnNmInterfaceParts", fn := fun _ => fun
  | [d] => { results := [.lit (.bool true)], args := [d] }
  | _ => none }
def fnNmInterfacePartsRow : OpenClaim := { program := "ytheopfecoakhnaa", sum := "fbf11a625128635ff4da637b1803c2207c54101973b6b3be79a52d5c45dc4e20", func := "pub-barouche/laws.FnNmInterfaceParts", spec := "fnNmInterfaceParts", apart := false }
def FnNmInterfacePartsSaid : Prop := fnNmInterfacePartsRow.holds Try.pinned (OpenSpec.ofChange fnNmInterfacePartsSpec)

/-- ITS FALSE NEIGHBOUR: 'it returns false'. Refute it at one input. -/
def fnNmInterfacePartsWrong : ChangeSpec := { name := "fnNmInterfaceParts", fn := fun _ => fun
  | [d] => { results := [.lit (.bool false)], args := [d] }
  | _ => none }
def FnNmInterfacePartsWrongFalsely : Prop := fnNmInterfacePartsRow.holds Try.pinned (OpenSpec.ofChange fnNmInterfacePartsWrong)

/-- 'laws.FnNmByte': WHATEVER THE INPUT: true; the input reads as it did. -/
def fnNmByteSpec : ChangeSpec := { name := "fnNmByte", fn := fun _ => fun
  | [d1, d2, d3, d4, d5] => { results := [.lit (.bool true)], args := [d1, d2, d3, d4, d5] }
  | _ => none }
def fnNmByteRow : OpenClaim := { program := "ytheopfecoakhnaa", sum := "fbf11a625128635ff4da637b1803c2207c54101973b6b3be79a52d5c45dc4e20", func := "pub-barouche/laws.FnNmByte", spec := "fnNmByte", unfollowed := true, recurses := true, apart := false }
def FnNmByteSaid : Prop := fnNmByteRow.holds Try.pinned (OpenSpec.ofChange fnNmByteSpec)

/-- ITS FALSE NEIGHBOUR: 'it returns false'. Refute it at one input. -/
def fnNmByteWrong : ChangeSpec := { name := "fnNmByte", fn := fun _ => fun
  | [d1, d2, d3, d4, d5] => { results := [.lit (.bool false)], args := [d1, d2, d3, d4, d5] }
  | _ => none }
def FnNmByteWrongFalsely : Prop := fnNmByteRow.holds Try.pinned (OpenSpec.ofChange fnNmByteWrong)

/- THE SECOND FORM. 'bulk': how many values and letters a reading holds, each counted each time it is reached (what is shared counts as often as it is met; a slice's spare places count too). A statement '..UptoSaid' is the law's where the arguments, and the package variables that the reading takes, are together of bulk at most 1048576: NARROWER than '..Said'. Prove '..Said' where nothing that the law and all that it calls make is longer than what came in: it says more and counts as full. Else prove '..UptoSaid'. A law counts once. -/
mutual
def uptoBulk {H : Type} : DataW H → Nat
  | .lit (.string bytes) => bytes.length + 1
  | .lit _ => 1
  | .nil => 1
  | .ptr d => uptoBulk d + 1
  | .slice elems spare => uptoBulkAll elems + uptoBulkAll spare + 1
  | .agg parts => uptoBulkAll parts + 1
  | .iface _ d => uptoBulk d + 1
  | .map entries => uptoBulkEntries entries + 1
  | .held _ => 1
def uptoBulkAll {H : Type} : List (DataW H) → Nat
  | [] => 0
  | d :: r => uptoBulk d + uptoBulkAll r
def uptoBulkEntries {H : Type} : List (Lit × DataW H) → Nat
  | [] => 0
  | x :: r => uptoBulkEntry x + uptoBulkEntries r
def uptoBulkEntry {H : Type} : Lit × DataW H → Nat
  | (.string bytes, d) => bytes.length + uptoBulk d + 1
  | (_, d) => uptoBulk d + 1
 end
def uptoSmall : (H : Type) → List (DataW H) → Bool := fun _ ds => decide (uptoBulkAll ds ≤ 1048576)
def OpenSpec.upto (s : _root_.Go.ChangeSpec) : _root_.Go.OpenSpec := { _root_.Go.OpenSpec.ofChange s with cond := some uptoSmall }

/-- 'laws.FnNmPathParts', WHERE WHAT IT READS IS OF BULK AT MOST 1048576: true; the input reads as it did. -/
def fnNmPathPartsUptoRow : OpenClaim := { program := "ytheopfecoakhnaa", sum := "fbf11a625128635ff4da637b1803c2207c54101973b6b3be79a52d5c45dc4e20", func := "pub-barouche/laws.FnNmPathParts", spec := "fnNmPathParts", apart := false, narrowed := true }
def FnNmPathPartsUptoSaid : Prop := fnNmPathPartsUptoRow.holds Try.pinned (OpenSpec.upto fnNmPathPartsSpec)

/-- 'laws.FnNmInterfaceParts', WHERE WHAT IT READS IS OF BULK AT MOST 1048576: true; the input reads as it did. -/
def fnNmInterfacePartsUptoRow : OpenClaim := { program := "ytheopfecoakhnaa", sum := "fbf11a625128635ff4da637b1803c2207c54101973b6b3be79a52d5c45dc4e20", func := "pub-barouche/laws.FnNmInterfaceParts", spec := "fnNmInterfaceParts", apart := false, narrowed := true }
def FnNmInterfacePartsUptoSaid : Prop := fnNmInterfacePartsUptoRow.holds Try.pinned (OpenSpec.upto fnNmInterfacePartsSpec)

/-- 'laws.FnNmByte', WHERE WHAT IT READS IS OF BULK AT MOST 1048576: true; the input reads as it did. -/
def fnNmByteUptoRow : OpenClaim := { program := "ytheopfecoakhnaa", sum := "fbf11a625128635ff4da637b1803c2207c54101973b6b3be79a52d5c45dc4e20", func := "pub-barouche/laws.FnNmByte", spec := "fnNmByte", unfollowed := true, recurses := true, apart := false, narrowed := true }
def FnNmByteUptoSaid : Prop := fnNmByteUptoRow.holds Try.pinned (OpenSpec.upto fnNmByteSpec)

end Rows
end Go.Proofs.Ytheopfecoakhnaa
