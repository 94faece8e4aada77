/-
  DERIVED. GIVEN WITH THE SEED: THE CARDS: each row of YtoldgnmgjpjapaaDoorRows.lean that lists a variable, with what it lists TIED to the program's text (the seventh form; the later family's looks); each row that meets fmt, with fmt's text TOLD by the authors' own Lean function (tested against real Go, not proved from fmt's source: count such statements apart). THE CARD IS WHAT COUNTS. Prove the row's statement (the work); the ties are given (YtoldgnmgjpjapaaDoorTie.lean); close each card by the builder's one call (the guide's Derived/Test/ToyasCard.lean, 'card_holds'). Laid BY PROGRAM, IN A SANDBOX (cutbox-door.mjs). By AI agents, Wed Nov 11 2026. No macro, syntax, notation, axiom, sorry.
-/
import Derived.Test.YtoldgnmgjpjapaaDoorRows
import GoSem.ClaimSeven
namespace Go.Proofs.YtoldgnmgjpjapaaDoor
namespace Rows

/-- THE TIED CARD OF 'laws.FnMtRuleOrder'. -/
def fnMtRuleOrderCard : Claim7 := { stood := { row := fnMtRuleOrderRow, standIns := [], harness := (true, "993b8ab36e5f37f584eb57fad19f86c4a320d937d02a79678a82ffa86855e0cb"), looks := false }, kinds := [], alts := [], laidByText := true, laidKinds := [.data, .data, .data], laidTests := true, laidLooks := .later }
def FnMtRuleOrderCardSaid : Prop := Claim7.holds Tryd.pinned (.plain (OpenSpec.ofChange fnMtRuleOrderSpec)) fnMtRuleOrderCard

/-- THE TIED CARD OF 'laws.FnMtWithRule'. -/
def fnMtWithRuleCard : Claim7 := { stood := { row := fnMtWithRuleRow, standIns := [], harness := (true, "993b8ab36e5f37f584eb57fad19f86c4a320d937d02a79678a82ffa86855e0cb"), looks := false }, kinds := [], alts := [], laidByText := true, laidKinds := [.data, .data, .data], laidTests := true, laidLooks := .later }
def FnMtWithRuleCardSaid : Prop := Claim7.holds Tryd.pinned (.plain (OpenSpec.ofChange fnMtWithRuleSpec)) fnMtWithRuleCard

/-- THE SECOND FORM's CARD OF 'laws.FnMtRuleOrder'. -/
def fnMtRuleOrderUptoCard : Claim7 := { stood := { row := fnMtRuleOrderUptoRow, standIns := [], harness := (true, "993b8ab36e5f37f584eb57fad19f86c4a320d937d02a79678a82ffa86855e0cb"), looks := false }, kinds := [], alts := [], laidByText := true, laidKinds := [.data, .data, .data], laidTests := true, laidLooks := .later }
def FnMtRuleOrderUptoCardSaid : Prop := Claim7.holds Tryd.pinned (.plain (OpenSpec.upto fnMtRuleOrderSpec)) fnMtRuleOrderUptoCard

/-- THE SECOND FORM's CARD OF 'laws.FnMtWithRule'. -/
def fnMtWithRuleUptoCard : Claim7 := { stood := { row := fnMtWithRuleUptoRow, standIns := [], harness := (true, "993b8ab36e5f37f584eb57fad19f86c4a320d937d02a79678a82ffa86855e0cb"), looks := false }, kinds := [], alts := [], laidByText := true, laidKinds := [.data, .data, .data], laidTests := true, laidLooks := .later }
def FnMtWithRuleUptoCardSaid : Prop := Claim7.holds Tryd.pinned (.plain (OpenSpec.upto fnMtWithRuleSpec)) fnMtWithRuleUptoCard
end Rows
end Go.Proofs.YtoldgnmgjpjapaaDoor
