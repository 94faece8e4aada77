/-
  No cell of these rows narrows 'for every input' (looked for: loops, veiled, ifaces, maps, wideKeys, modest, calm, conditions, laid).
  DERIVED. THE GIVEN ROWS OF THIS SEAT. 6 by the template 'for every input the law returns true; each argument reads behind the call as it read before'; 0 by the template 'total and deterministic' (their statements: YthhiijehdpchbaaTotals.lean).
  GIVEN WITH THE SEED: the statements are not yours to turn. If you find one false, say at which input.
  Laid BY PROGRAM, IN A SANDBOX (cutbox-rows.mjs): the forced cells as the released guide's own fill.sh prints them over the translation c2009dd8ec1b648e… (all of the seat's roots in one cut). By AI agents, Wed Nov 11 2026. No macro, syntax, notation, axiom, sorry.
-/
import Derived.Test.YthhiijehdpchbaaChecked
import GoSem.Claim
import GoSem.ClaimJoined
import GoSem.ClaimMapViews
import Derived.JoinedTies
import Derived.KernelRfl
namespace Go.Proofs.Ythhiijehdpchbaa
/- THE CELL 'sum', in the pinned program and in every row, IS THE sha256 OF THE DUMP (.gsa) THAT YthhiijehdpchbaaProg.lean LOADS. Nothing in Lean hashes anything: it is a label: what it is worth is what the hold of that sum in a sandbox is worth. -/
noncomputable def Try.pinned : Pinned := { name := "ythhiijehdpchbaa", sum := "c2009dd8ec1b648e4b8b652d98320cedf91b2e7fb6f5223fb52ea6297dac5f1f", checked := Try.checked }
namespace Rows
def none {H : Type} : Left H := { results := [], args := [] }

/-- 'laws.FnSgCut': WHATEVER THE INPUT: true; the input reads as it did. -/
def fnSgCutSpec : ChangeSpec := { name := "fnSgCut", fn := fun _ => fun
  | [d1, d2] => { results := [.lit (.bool true)], args := [d1, d2] }
  | _ => none }
def fnSgCutRow : OpenClaim := { program := "ythhiijehdpchbaa", sum := "c2009dd8ec1b648e4b8b652d98320cedf91b2e7fb6f5223fb52ea6297dac5f1f", func := "pub-barouche/laws.FnSgCut", spec := "fnSgCut", recurses := true, apart := false }
def FnSgCutSaid : Prop := fnSgCutRow.holds Try.pinned (OpenSpec.ofChange fnSgCutSpec)

/-- ITS FALSE NEIGHBOUR: 'it returns false'. Refute it at one input. -/
def fnSgCutWrong : ChangeSpec := { name := "fnSgCut", fn := fun _ => fun
  | [d1, d2] => { results := [.lit (.bool false)], args := [d1, d2] }
  | _ => none }
def FnSgCutWrongFalsely : Prop := fnSgCutRow.holds Try.pinned (OpenSpec.ofChange fnSgCutWrong)

/-- 'laws.FnSgDepth': WHATEVER THE INPUT: true; the input reads as it did. -/
def fnSgDepthSpec : ChangeSpec := { name := "fnSgDepth", fn := fun _ => fun
  | [d1, d2, d3] => { results := [.lit (.bool true)], args := [d1, d2, d3] }
  | _ => none }
def fnSgDepthRow : OpenClaim := { program := "ythhiijehdpchbaa", sum := "c2009dd8ec1b648e4b8b652d98320cedf91b2e7fb6f5223fb52ea6297dac5f1f", func := "pub-barouche/laws.FnSgDepth", spec := "fnSgDepth", recurses := true, apart := false }
def FnSgDepthSaid : Prop := fnSgDepthRow.holds Try.pinned (OpenSpec.ofChange fnSgDepthSpec)

/-- ITS FALSE NEIGHBOUR: 'it returns false'. Refute it at one input. -/
def fnSgDepthWrong : ChangeSpec := { name := "fnSgDepth", fn := fun _ => fun
  | [d1, d2, d3] => { results := [.lit (.bool false)], args := [d1, d2, d3] }
  | _ => none }
def FnSgDepthWrongFalsely : Prop := fnSgDepthRow.holds Try.pinned (OpenSpec.ofChange fnSgDepthWrong)

/-- 'laws.FnSgGrammar': WHATEVER THE INPUT: true; the input reads as it did. -/
def fnSgGrammarSpec : ChangeSpec := { name := "fnSgGrammar", fn := fun _ => fun
  | [d] => { results := [.lit (.bool true)], args := [d] }
  | _ => none }
def fnSgGrammarRow : OpenClaim := { program := "ythhiijehdpchbaa", sum := "c2009dd8ec1b648e4b8b652d98320cedf91b2e7fb6f5223fb52ea6297dac5f1f", func := "pub-barouche/laws.FnSgGrammar", spec := "fnSgGrammar", recurses := true, apart := false }
def FnSgGrammarSaid : Prop := fnSgGrammarRow.holds Try.pinned (OpenSpec.ofChange fnSgGrammarSpec)

/-- ITS FALSE NEIGHBOUR: 'it returns false'. Refute it at one input. -/
def fnSgGrammarWrong : ChangeSpec := { name := "fnSgGrammar", fn := fun _ => fun
  | [d] => { results := [.lit (.bool false)], args := [d] }
  | _ => none }
def FnSgGrammarWrongFalsely : Prop := fnSgGrammarRow.holds Try.pinned (OpenSpec.ofChange fnSgGrammarWrong)

/-- 'laws.FnSgParse': WHATEVER THE INPUT: true; the input reads as it did. -/
def fnSgParseSpec : ChangeSpec := { name := "fnSgParse", fn := fun _ => fun
  | [d] => { results := [.lit (.bool true)], args := [d] }
  | _ => none }
def fnSgParseRow : OpenClaim := { program := "ythhiijehdpchbaa", sum := "c2009dd8ec1b648e4b8b652d98320cedf91b2e7fb6f5223fb52ea6297dac5f1f", func := "pub-barouche/laws.FnSgParse", spec := "fnSgParse", recurses := true, apart := false }
def FnSgParseSaid : Prop := fnSgParseRow.holds Try.pinned (OpenSpec.ofChange fnSgParseSpec)

/-- ITS FALSE NEIGHBOUR: 'it returns false'. Refute it at one input. -/
def fnSgParseWrong : ChangeSpec := { name := "fnSgParse", fn := fun _ => fun
  | [d] => { results := [.lit (.bool false)], args := [d] }
  | _ => none }
def FnSgParseWrongFalsely : Prop := fnSgParseRow.holds Try.pinned (OpenSpec.ofChange fnSgParseWrong)

/-- 'laws.FnSgStruct': WHATEVER THE INPUT: true; the input reads as it did. -/
def fnSgStructSpec : ChangeSpec := { name := "fnSgStruct", fn := fun _ => fun
  | [d] => { results := [.lit (.bool true)], args := [d] }
  | _ => none }
def fnSgStructRow : OpenClaim := { program := "ythhiijehdpchbaa", sum := "c2009dd8ec1b648e4b8b652d98320cedf91b2e7fb6f5223fb52ea6297dac5f1f", func := "pub-barouche/laws.FnSgStruct", spec := "fnSgStruct", recurses := true, apart := false }
def FnSgStructSaid : Prop := fnSgStructRow.holds Try.pinned (OpenSpec.ofChange fnSgStructSpec)

/-- ITS FALSE NEIGHBOUR: 'it returns false'. Refute it at one input. -/
def fnSgStructWrong : ChangeSpec := { name := "fnSgStruct", fn := fun _ => fun
  | [d] => { results := [.lit (.bool false)], args := [d] }
  | _ => none }
def FnSgStructWrongFalsely : Prop := fnSgStructRow.holds Try.pinned (OpenSpec.ofChange fnSgStructWrong)

/-- 'laws.FnSgInsert': WHATEVER THE INPUT: true; the input reads as it did. -/
def fnSgInsertSpec : ChangeSpec := { name := "fnSgInsert", fn := fun _ => fun
  | [d1, d2, d3] => { results := [.lit (.bool true)], args := [d1, d2, d3] }
  | _ => none }
def fnSgInsertRow : OpenClaim := { program := "ythhiijehdpchbaa", sum := "c2009dd8ec1b648e4b8b652d98320cedf91b2e7fb6f5223fb52ea6297dac5f1f", func := "pub-barouche/laws.FnSgInsert", spec := "fnSgInsert", recurses := true, apart := false }
def FnSgInsertSaid : Prop := fnSgInsertRow.holds Try.pinned (OpenSpec.ofChange fnSgInsertSpec)

/-- ITS FALSE NEIGHBOUR: 'it returns false'. Refute it at one input. -/
def fnSgInsertWrong : ChangeSpec := { name := "fnSgInsert", fn := fun _ => fun
  | [d1, d2, d3] => { results := [.lit (.bool false)], args := [d1, d2, d3] }
  | _ => none }
def FnSgInsertWrongFalsely : Prop := fnSgInsertRow.holds Try.pinned (OpenSpec.ofChange fnSgInsertWrong)

/- THE SECOND FORM. 'bulk': how many values and letters a reading holds, each counted each time it is reached (what is shared counts as often as it is met; a slice's spare places count too). A statement '..UptoSaid' is the law's where the arguments, and the package variables that the reading takes, are together of bulk at most 1048576: NARROWER than '..Said'. Prove '..Said' where nothing that the law and all that it calls make is longer than what came in: it says more and counts as full. Else prove '..UptoSaid'. A law counts once. -/
mutual
def uptoBulk {H : Type} : DataW H → Nat
  | .lit (.string bytes) => bytes.length + 1
  | .lit _ => 1
  | .nil => 1
  | .ptr d => uptoBulk d + 1
  | .slice elems spare => uptoBulkAll elems + uptoBulkAll spare + 1
  | .agg parts => uptoBulkAll parts + 1
  | .iface _ d => uptoBulk d + 1
  | .map entries => uptoBulkEntries entries + 1
  | .held _ => 1
def uptoBulkAll {H : Type} : List (DataW H) → Nat
  | [] => 0
  | d :: r => uptoBulk d + uptoBulkAll r
def uptoBulkEntries {H : Type} : List (Lit × DataW H) → Nat
  | [] => 0
  | x :: r => uptoBulkEntry x + uptoBulkEntries r
def uptoBulkEntry {H : Type} : Lit × DataW H → Nat
  | (.string bytes, d) => bytes.length + uptoBulk d + 1
  | (_, d) => uptoBulk d + 1
 end
def uptoSmall : (H : Type) → List (DataW H) → Bool := fun _ ds => decide (uptoBulkAll ds ≤ 1048576)
def OpenSpec.upto (s : _root_.Go.ChangeSpec) : _root_.Go.OpenSpec := { _root_.Go.OpenSpec.ofChange s with cond := some uptoSmall }

/-- 'laws.FnSgCut', WHERE WHAT IT READS IS OF BULK AT MOST 1048576: true; the input reads as it did. -/
def fnSgCutUptoRow : OpenClaim := { program := "ythhiijehdpchbaa", sum := "c2009dd8ec1b648e4b8b652d98320cedf91b2e7fb6f5223fb52ea6297dac5f1f", func := "pub-barouche/laws.FnSgCut", spec := "fnSgCut", recurses := true, apart := false, narrowed := true }
def FnSgCutUptoSaid : Prop := fnSgCutUptoRow.holds Try.pinned (OpenSpec.upto fnSgCutSpec)

/-- 'laws.FnSgDepth', WHERE WHAT IT READS IS OF BULK AT MOST 1048576: true; the input reads as it did. -/
def fnSgDepthUptoRow : OpenClaim := { program := "ythhiijehdpchbaa", sum := "c2009dd8ec1b648e4b8b652d98320cedf91b2e7fb6f5223fb52ea6297dac5f1f", func := "pub-barouche/laws.FnSgDepth", spec := "fnSgDepth", recurses := true, apart := false, narrowed := true }
def FnSgDepthUptoSaid : Prop := fnSgDepthUptoRow.holds Try.pinned (OpenSpec.upto fnSgDepthSpec)

/-- 'laws.FnSgGrammar', WHERE WHAT IT READS IS OF BULK AT MOST 1048576: true; the input reads as it did. -/
def fnSgGrammarUptoRow : OpenClaim := { program := "ythhiijehdpchbaa", sum := "c2009dd8ec1b648e4b8b652d98320cedf91b2e7fb6f5223fb52ea6297dac5f1f", func := "pub-barouche/laws.FnSgGrammar", spec := "fnSgGrammar", recurses := true, apart := false, narrowed := true }
def FnSgGrammarUptoSaid : Prop := fnSgGrammarUptoRow.holds Try.pinned (OpenSpec.upto fnSgGrammarSpec)

/-- 'laws.FnSgParse', WHERE WHAT IT READS IS OF BULK AT MOST 1048576: true; the input reads as it did. -/
def fnSgParseUptoRow : OpenClaim := { program := "ythhiijehdpchbaa", sum := "c2009dd8ec1b648e4b8b652d98320cedf91b2e7fb6f5223fb52ea6297dac5f1f", func := "pub-barouche/laws.FnSgParse", spec := "fnSgParse", recurses := true, apart := false, narrowed := true }
def FnSgParseUptoSaid : Prop := fnSgParseUptoRow.holds Try.pinned (OpenSpec.upto fnSgParseSpec)

/-- 'laws.FnSgStruct', WHERE WHAT IT READS IS OF BULK AT MOST 1048576: true; the input reads as it did. -/
def fnSgStructUptoRow : OpenClaim := { program := "ythhiijehdpchbaa", sum := "c2009dd8ec1b648e4b8b652d98320cedf91b2e7fb6f5223fb52ea6297dac5f1f", func := "pub-barouche/laws.FnSgStruct", spec := "fnSgStruct", recurses := true, apart := false, narrowed := true }
def FnSgStructUptoSaid : Prop := fnSgStructUptoRow.holds Try.pinned (OpenSpec.upto fnSgStructSpec)

/-- 'laws.FnSgInsert', WHERE WHAT IT READS IS OF BULK AT MOST 1048576: true; the input reads as it did. -/
def fnSgInsertUptoRow : OpenClaim := { program := "ythhiijehdpchbaa", sum := "c2009dd8ec1b648e4b8b652d98320cedf91b2e7fb6f5223fb52ea6297dac5f1f", func := "pub-barouche/laws.FnSgInsert", spec := "fnSgInsert", recurses := true, apart := false, narrowed := true }
def FnSgInsertUptoSaid : Prop := fnSgInsertUptoRow.holds Try.pinned (OpenSpec.upto fnSgInsertSpec)

end Rows
end Go.Proofs.Ythhiijehdpchbaa
