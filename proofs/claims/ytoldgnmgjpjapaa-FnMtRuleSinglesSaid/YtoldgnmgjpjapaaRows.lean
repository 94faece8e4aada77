/-
  No cell of these rows narrows 'for every input' (looked for: loops, veiled, ifaces, maps, wideKeys, modest, calm, conditions, laid).
  DERIVED. THE GIVEN ROWS OF THIS SEAT. 2 by the template 'for every input the law returns true; each argument reads behind the call as it read before'; 0 by the template 'total and deterministic' (their statements: YtoldgnmgjpjapaaTotals.lean).
  GIVEN WITH THE SEED: the statements are not yours to turn. If you find one false, say at which input.
  Laid BY PROGRAM, IN A SANDBOX (cutbox-rows.mjs): the forced cells as the released guide's own fill.sh prints them over the translation ebc3fbc672e3b421… (all of the seat's roots in one cut). By AI agents, Wed Nov 11 2026. No macro, syntax, notation, axiom, sorry.
-/
import Derived.Test.YtoldgnmgjpjapaaChecked
import GoSem.Claim
import GoSem.ClaimJoined
import GoSem.ClaimMapViews
import Derived.JoinedTies
import Derived.KernelRfl
namespace Go.Proofs.Ytoldgnmgjpjapaa
/- THE CELL 'sum', in the pinned program and in every row, IS THE sha256 OF THE DUMP (.gsa) THAT YtoldgnmgjpjapaaProg.lean LOADS. Nothing in Lean hashes anything: it is a label: what it is worth is what the hold of that sum in a sandbox is worth. -/
noncomputable def Try.pinned : Pinned := { name := "ytoldgnmgjpjapaa", sum := "ebc3fbc672e3b4214769b05256feb6c0bb9423e5f530feea012a5141607504b4", checked := Try.checked }
namespace Rows
def none {H : Type} : Left H := { results := [], args := [] }

/-- 'laws.FnMtRuleRead': WHATEVER THE INPUT: true; the input reads as it did. -/
def fnMtRuleReadSpec : ChangeSpec := { name := "fnMtRuleRead", fn := fun _ => fun
  | [d] => { results := [.lit (.bool true)], args := [d] }
  | _ => none }
def fnMtRuleReadRow : OpenClaim := { program := "ytoldgnmgjpjapaa", sum := "ebc3fbc672e3b4214769b05256feb6c0bb9423e5f530feea012a5141607504b4", func := "pub-barouche/laws.FnMtRuleRead", spec := "fnMtRuleRead", inPlace := ["internal/abi.NoEscape", "internal/bytealg.MakeNoZero"], apart := false }
def FnMtRuleReadSaid : Prop := fnMtRuleReadRow.holds Try.pinned (OpenSpec.ofChange fnMtRuleReadSpec)

/-- ITS FALSE NEIGHBOUR: 'it returns false'. Refute it at one input. -/
def fnMtRuleReadWrong : ChangeSpec := { name := "fnMtRuleRead", fn := fun _ => fun
  | [d] => { results := [.lit (.bool false)], args := [d] }
  | _ => none }
def FnMtRuleReadWrongFalsely : Prop := fnMtRuleReadRow.holds Try.pinned (OpenSpec.ofChange fnMtRuleReadWrong)

/-- 'laws.FnMtRuleSingles': WHATEVER THE INPUT: true; the input reads as it did. -/
def fnMtRuleSinglesSpec : ChangeSpec := { name := "fnMtRuleSingles", fn := fun _ => fun
  | [d] => { results := [.lit (.bool true)], args := [d] }
  | _ => none }
def fnMtRuleSinglesRow : OpenClaim := { program := "ytoldgnmgjpjapaa", sum := "ebc3fbc672e3b4214769b05256feb6c0bb9423e5f530feea012a5141607504b4", func := "pub-barouche/laws.FnMtRuleSingles", spec := "fnMtRuleSingles", inPlace := ["internal/abi.NoEscape", "internal/bytealg.MakeNoZero"], apart := false }
def FnMtRuleSinglesSaid : Prop := fnMtRuleSinglesRow.holds Try.pinned (OpenSpec.ofChange fnMtRuleSinglesSpec)

/-- ITS FALSE NEIGHBOUR: 'it returns false'. Refute it at one input. -/
def fnMtRuleSinglesWrong : ChangeSpec := { name := "fnMtRuleSingles", fn := fun _ => fun
  | [d] => { results := [.lit (.bool false)], args := [d] }
  | _ => none }
def FnMtRuleSinglesWrongFalsely : Prop := fnMtRuleSinglesRow.holds Try.pinned (OpenSpec.ofChange fnMtRuleSinglesWrong)

/- THE SECOND FORM. 'bulk': how many values and letters a reading holds, each counted each time it is reached (what is shared counts as often as it is met; a slice's spare places count too). A statement '..UptoSaid' is the law's where the arguments, and the package variables that the reading takes, are together of bulk at most 1048576: NARROWER than '..Said'. Prove '..Said' where nothing that the law and all that it calls make is longer than what came in: it says more and counts as full. Else prove '..UptoSaid'. A law counts once. -/
mutual
def uptoBulk {H : Type} : DataW H → Nat
  | .lit (.string bytes) => bytes.length + 1
  | .lit _ => 1
  | .nil => 1
  | .ptr d => uptoBulk d + 1
  | .slice elems spare => uptoBulkAll elems + uptoBulkAll spare + 1
  | .agg parts => uptoBulkAll parts + 1
  | .iface _ d => uptoBulk d + 1
  | .map entries => uptoBulkEntries entries + 1
  | .held _ => 1
def uptoBulkAll {H : Type} : List (DataW H) → Nat
  | [] => 0
  | d :: r => uptoBulk d + uptoBulkAll r
def uptoBulkEntries {H : Type} : List (Lit × DataW H) → Nat
  | [] => 0
  | x :: r => uptoBulkEntry x + uptoBulkEntries r
def uptoBulkEntry {H : Type} : Lit × DataW H → Nat
  | (.string bytes, d) => bytes.length + uptoBulk d + 1
  | (_, d) => uptoBulk d + 1
 end
def uptoSmall : (H : Type) → List (DataW H) → Bool := fun _ ds => decide (uptoBulkAll ds ≤ 1048576)
def OpenSpec.upto (s : _root_.Go.ChangeSpec) : _root_.Go.OpenSpec := { _root_.Go.OpenSpec.ofChange s with cond := some uptoSmall }

/-- 'laws.FnMtRuleRead', WHERE WHAT IT READS IS OF BULK AT MOST 1048576: true; the input reads as it did. -/
def fnMtRuleReadUptoRow : OpenClaim := { program := "ytoldgnmgjpjapaa", sum := "ebc3fbc672e3b4214769b05256feb6c0bb9423e5f530feea012a5141607504b4", func := "pub-barouche/laws.FnMtRuleRead", spec := "fnMtRuleRead", inPlace := ["internal/abi.NoEscape", "internal/bytealg.MakeNoZero"], apart := false, narrowed := true }
def FnMtRuleReadUptoSaid : Prop := fnMtRuleReadUptoRow.holds Try.pinned (OpenSpec.upto fnMtRuleReadSpec)

/-- 'laws.FnMtRuleSingles', WHERE WHAT IT READS IS OF BULK AT MOST 1048576: true; the input reads as it did. -/
def fnMtRuleSinglesUptoRow : OpenClaim := { program := "ytoldgnmgjpjapaa", sum := "ebc3fbc672e3b4214769b05256feb6c0bb9423e5f530feea012a5141607504b4", func := "pub-barouche/laws.FnMtRuleSingles", spec := "fnMtRuleSingles", inPlace := ["internal/abi.NoEscape", "internal/bytealg.MakeNoZero"], apart := false, narrowed := true }
def FnMtRuleSinglesUptoSaid : Prop := fnMtRuleSinglesUptoRow.holds Try.pinned (OpenSpec.upto fnMtRuleSinglesSpec)

end Rows
end Go.Proofs.Ytoldgnmgjpjapaa
