/-
  No cell of these rows narrows 'for every input' (looked for: loops, veiled, ifaces, maps, wideKeys, modest, calm, conditions, laid).
  DERIVED. THE GIVEN ROWS OF THIS SEAT. 6 by the template 'for every input the law returns true; each argument reads behind the call as it read before'; 0 by the template 'total and deterministic' (their statements: YtpndgbiaomglpaaTotals.lean).
  GIVEN WITH THE SEED: the statements are not yours to turn. If you find one false, say at which input.
  Laid BY PROGRAM, IN A SANDBOX (cutbox-rows.mjs): the forced cells as the released guide's own fill.sh prints them over the translation 10a3b9f229f03e2e… (all of the seat's roots in one cut). By AI agents, Wed Nov 11 2026. No macro, syntax, notation, axiom, sorry.
-/
import Derived.Test.YtpndgbiaomglpaaChecked
import GoSem.Claim
import GoSem.ClaimJoined
import GoSem.ClaimMapViews
import Derived.JoinedTies
import Derived.KernelRfl
namespace Go.Proofs.Ytpndgbiaomglpaa
/- THE CELL 'sum', in the pinned program and in every row, IS THE sha256 OF THE DUMP (.gsa) THAT YtpndgbiaomglpaaProg.lean LOADS. Nothing in Lean hashes anything: it is a label: what it is worth is what the hold of that sum in a sandbox is worth. -/
noncomputable def Try.pinned : Pinned := { name := "ytpndgbiaomglpaa", sum := "10a3b9f229f03e2e42d514ada6ee6ac1083a4a3381e10727f09a08f300ec158b", checked := Try.checked }
namespace Rows
def none {H : Type} : Left H := { results := [], args := [] }

/-- 'laws.FnWrPadSum': WHATEVER THE INPUT: true; the input reads as it did. -/
def fnWrPadSumSpec : ChangeSpec := { name := "fnWrPadSum", fn := fun _ => fun
  | [d1, d2, d3] => { results := [.lit (.bool true)], args := [d1, d2, d3] }
  | _ => none }
def fnWrPadSumRow : OpenClaim := { program := "ytpndgbiaomglpaa", sum := "10a3b9f229f03e2e42d514ada6ee6ac1083a4a3381e10727f09a08f300ec158b", func := "pub-barouche/laws.FnWrPadSum", spec := "fnWrPadSum", apart := false }
def FnWrPadSumSaid : Prop := fnWrPadSumRow.holds Try.pinned (OpenSpec.ofChange fnWrPadSumSpec)

/-- ITS FALSE NEIGHBOUR: 'it returns false'. Refute it at one input. -/
def fnWrPadSumWrong : ChangeSpec := { name := "fnWrPadSum", fn := fun _ => fun
  | [d1, d2, d3] => { results := [.lit (.bool false)], args := [d1, d2, d3] }
  | _ => none }
def FnWrPadSumWrongFalsely : Prop := fnWrPadSumRow.holds Try.pinned (OpenSpec.ofChange fnWrPadSumWrong)

/-- 'laws.FnSgMatchingWrap': WHATEVER THE INPUT: true; the input reads as it did. -/
def fnSgMatchingWrapSpec : ChangeSpec := { name := "fnSgMatchingWrap", fn := fun _ => fun
  | [d1, d2, d3] => { results := [.lit (.bool true)], args := [d1, d2, d3] }
  | _ => none }
def fnSgMatchingWrapRow : OpenClaim := { program := "ytpndgbiaomglpaa", sum := "10a3b9f229f03e2e42d514ada6ee6ac1083a4a3381e10727f09a08f300ec158b", func := "pub-barouche/laws.FnSgMatchingWrap", spec := "fnSgMatchingWrap", apart := false }
def FnSgMatchingWrapSaid : Prop := fnSgMatchingWrapRow.holds Try.pinned (OpenSpec.ofChange fnSgMatchingWrapSpec)

/-- ITS FALSE NEIGHBOUR: 'it returns false'. Refute it at one input. -/
def fnSgMatchingWrapWrong : ChangeSpec := { name := "fnSgMatchingWrap", fn := fun _ => fun
  | [d1, d2, d3] => { results := [.lit (.bool false)], args := [d1, d2, d3] }
  | _ => none }
def FnSgMatchingWrapWrongFalsely : Prop := fnSgMatchingWrapRow.holds Try.pinned (OpenSpec.ofChange fnSgMatchingWrapWrong)

/-- 'laws.FnWrStrings': WHATEVER THE INPUT: true; the input reads as it did. -/
def fnWrStringsSpec : ChangeSpec := { name := "fnWrStrings", fn := fun _ => fun
  | [d1, d2] => { results := [.lit (.bool true)], args := [d1, d2] }
  | _ => none }
def fnWrStringsRow : OpenClaim := { program := "ytpndgbiaomglpaa", sum := "10a3b9f229f03e2e42d514ada6ee6ac1083a4a3381e10727f09a08f300ec158b", func := "pub-barouche/laws.FnWrStrings", spec := "fnWrStrings", apart := false }
def FnWrStringsSaid : Prop := fnWrStringsRow.holds Try.pinned (OpenSpec.ofChange fnWrStringsSpec)

/-- ITS FALSE NEIGHBOUR: 'it returns false'. Refute it at one input. -/
def fnWrStringsWrong : ChangeSpec := { name := "fnWrStrings", fn := fun _ => fun
  | [d1, d2] => { results := [.lit (.bool false)], args := [d1, d2] }
  | _ => none }
def FnWrStringsWrongFalsely : Prop := fnWrStringsRow.holds Try.pinned (OpenSpec.ofChange fnWrStringsWrong)

/-- 'laws.FnAdUnescape': WHATEVER THE INPUT: true; the input reads as it did. -/
def fnAdUnescapeSpec : ChangeSpec := { name := "fnAdUnescape", fn := fun _ => fun
  | [d] => { results := [.lit (.bool true)], args := [d] }
  | _ => none }
def fnAdUnescapeRow : OpenClaim := { program := "ytpndgbiaomglpaa", sum := "10a3b9f229f03e2e42d514ada6ee6ac1083a4a3381e10727f09a08f300ec158b", func := "pub-barouche/laws.FnAdUnescape", spec := "fnAdUnescape", apart := false }
def FnAdUnescapeSaid : Prop := fnAdUnescapeRow.holds Try.pinned (OpenSpec.ofChange fnAdUnescapeSpec)

/-- ITS FALSE NEIGHBOUR: 'it returns false'. Refute it at one input. -/
def fnAdUnescapeWrong : ChangeSpec := { name := "fnAdUnescape", fn := fun _ => fun
  | [d] => { results := [.lit (.bool false)], args := [d] }
  | _ => none }
def FnAdUnescapeWrongFalsely : Prop := fnAdUnescapeRow.holds Try.pinned (OpenSpec.ofChange fnAdUnescapeWrong)

/-- 'laws.FnWrSizeSum': WHATEVER THE INPUT: true; the input reads as it did. -/
def fnWrSizeSumSpec : ChangeSpec := { name := "fnWrSizeSum", fn := fun _ => fun
  | [d1, d2] => { results := [.lit (.bool true)], args := [d1, d2] }
  | _ => none }
def fnWrSizeSumRow : OpenClaim := { program := "ytpndgbiaomglpaa", sum := "10a3b9f229f03e2e42d514ada6ee6ac1083a4a3381e10727f09a08f300ec158b", func := "pub-barouche/laws.FnWrSizeSum", spec := "fnWrSizeSum", recurses := true, apart := false }
def FnWrSizeSumSaid : Prop := fnWrSizeSumRow.holds Try.pinned (OpenSpec.ofChange fnWrSizeSumSpec)

/-- ITS FALSE NEIGHBOUR: 'it returns false'. Refute it at one input. -/
def fnWrSizeSumWrong : ChangeSpec := { name := "fnWrSizeSum", fn := fun _ => fun
  | [d1, d2] => { results := [.lit (.bool false)], args := [d1, d2] }
  | _ => none }
def FnWrSizeSumWrongFalsely : Prop := fnWrSizeSumRow.holds Try.pinned (OpenSpec.ofChange fnWrSizeSumWrong)

/-- 'laws.FnAdJoin': WHATEVER THE INPUT: true; the input reads as it did. -/
def fnAdJoinSpec : ChangeSpec := { name := "fnAdJoin", fn := fun _ => fun
  | [d1, d2] => { results := [.lit (.bool true)], args := [d1, d2] }
  | _ => none }
def fnAdJoinRow : OpenClaim := { program := "ytpndgbiaomglpaa", sum := "10a3b9f229f03e2e42d514ada6ee6ac1083a4a3381e10727f09a08f300ec158b", func := "pub-barouche/laws.FnAdJoin", spec := "fnAdJoin", apart := false }
def FnAdJoinSaid : Prop := fnAdJoinRow.holds Try.pinned (OpenSpec.ofChange fnAdJoinSpec)

/-- ITS FALSE NEIGHBOUR: 'it returns false'. Refute it at one input. -/
def fnAdJoinWrong : ChangeSpec := { name := "fnAdJoin", fn := fun _ => fun
  | [d1, d2] => { results := [.lit (.bool false)], args := [d1, d2] }
  | _ => none }
def FnAdJoinWrongFalsely : Prop := fnAdJoinRow.holds Try.pinned (OpenSpec.ofChange fnAdJoinWrong)

/- THE SECOND FORM. 'bulk': how many values and letters a reading holds, each counted each time it is reached (what is shared counts as often as it is met; a slice's spare places count too). A statement '..UptoSaid' is the law's where the arguments, and the package variables that the reading takes, are together of bulk at most 1048576: NARROWER than '..Said'. Prove '..Said' where nothing that the law and all that it calls make is longer than what came in: it says more and counts as full. Else prove '..UptoSaid'. A law counts once. -/
mutual
def uptoBulk {H : Type} : DataW H → Nat
  | .lit (.string bytes) => bytes.length + 1
  | .lit _ => 1
  | .nil => 1
  | .ptr d => uptoBulk d + 1
  | .slice elems spare => uptoBulkAll elems + uptoBulkAll spare + 1
  | .agg parts => uptoBulkAll parts + 1
  | .iface _ d => uptoBulk d + 1
  | .map entries => uptoBulkEntries entries + 1
  | .held _ => 1
def uptoBulkAll {H : Type} : List (DataW H) → Nat
  | [] => 0
  | d :: r => uptoBulk d + uptoBulkAll r
def uptoBulkEntries {H : Type} : List (Lit × DataW H) → Nat
  | [] => 0
  | x :: r => uptoBulkEntry x + uptoBulkEntries r
def uptoBulkEntry {H : Type} : Lit × DataW H → Nat
  | (.string bytes, d) => bytes.length + uptoBulk d + 1
  | (_, d) => uptoBulk d + 1
 end
def uptoSmall : (H : Type) → List (DataW H) → Bool := fun _ ds => decide (uptoBulkAll ds ≤ 1048576)
def OpenSpec.upto (s : _root_.Go.ChangeSpec) : _root_.Go.OpenSpec := { _root_.Go.OpenSpec.ofChange s with cond := some uptoSmall }

/-- 'laws.FnWrPadSum', WHERE WHAT IT READS IS OF BULK AT MOST 1048576: true; the input reads as it did. -/
def fnWrPadSumUptoRow : OpenClaim := { program := "ytpndgbiaomglpaa", sum := "10a3b9f229f03e2e42d514ada6ee6ac1083a4a3381e10727f09a08f300ec158b", func := "pub-barouche/laws.FnWrPadSum", spec := "fnWrPadSum", apart := false, narrowed := true }
def FnWrPadSumUptoSaid : Prop := fnWrPadSumUptoRow.holds Try.pinned (OpenSpec.upto fnWrPadSumSpec)

/-- 'laws.FnSgMatchingWrap', WHERE WHAT IT READS IS OF BULK AT MOST 1048576: true; the input reads as it did. -/
def fnSgMatchingWrapUptoRow : OpenClaim := { program := "ytpndgbiaomglpaa", sum := "10a3b9f229f03e2e42d514ada6ee6ac1083a4a3381e10727f09a08f300ec158b", func := "pub-barouche/laws.FnSgMatchingWrap", spec := "fnSgMatchingWrap", apart := false, narrowed := true }
def FnSgMatchingWrapUptoSaid : Prop := fnSgMatchingWrapUptoRow.holds Try.pinned (OpenSpec.upto fnSgMatchingWrapSpec)

/-- 'laws.FnWrStrings', WHERE WHAT IT READS IS OF BULK AT MOST 1048576: true; the input reads as it did. -/
def fnWrStringsUptoRow : OpenClaim := { program := "ytpndgbiaomglpaa", sum := "10a3b9f229f03e2e42d514ada6ee6ac1083a4a3381e10727f09a08f300ec158b", func := "pub-barouche/laws.FnWrStrings", spec := "fnWrStrings", apart := false, narrowed := true }
def FnWrStringsUptoSaid : Prop := fnWrStringsUptoRow.holds Try.pinned (OpenSpec.upto fnWrStringsSpec)

/-- 'laws.FnAdUnescape', WHERE WHAT IT READS IS OF BULK AT MOST 1048576: true; the input reads as it did. -/
def fnAdUnescapeUptoRow : OpenClaim := { program := "ytpndgbiaomglpaa", sum := "10a3b9f229f03e2e42d514ada6ee6ac1083a4a3381e10727f09a08f300ec158b", func := "pub-barouche/laws.FnAdUnescape", spec := "fnAdUnescape", apart := false, narrowed := true }
def FnAdUnescapeUptoSaid : Prop := fnAdUnescapeUptoRow.holds Try.pinned (OpenSpec.upto fnAdUnescapeSpec)

/-- 'laws.FnWrSizeSum', WHERE WHAT IT READS IS OF BULK AT MOST 1048576: true; the input reads as it did. -/
def fnWrSizeSumUptoRow : OpenClaim := { program := "ytpndgbiaomglpaa", sum := "10a3b9f229f03e2e42d514ada6ee6ac1083a4a3381e10727f09a08f300ec158b", func := "pub-barouche/laws.FnWrSizeSum", spec := "fnWrSizeSum", recurses := true, apart := false, narrowed := true }
def FnWrSizeSumUptoSaid : Prop := fnWrSizeSumUptoRow.holds Try.pinned (OpenSpec.upto fnWrSizeSumSpec)

/-- 'laws.FnAdJoin', WHERE WHAT IT READS IS OF BULK AT MOST 1048576: true; the input reads as it did. -/
def fnAdJoinUptoRow : OpenClaim := { program := "ytpndgbiaomglpaa", sum := "10a3b9f229f03e2e42d514ada6ee6ac1083a4a3381e10727f09a08f300ec158b", func := "pub-barouche/laws.FnAdJoin", spec := "fnAdJoin", apart := false, narrowed := true }
def FnAdJoinUptoSaid : Prop := fnAdJoinUptoRow.holds Try.pinned (OpenSpec.upto fnAdJoinSpec)

end Rows
end Go.Proofs.Ytpndgbiaomglpaa
