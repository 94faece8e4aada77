/-
  DERIVED. GIVEN WITH THE SEED: THE CARDS: each row of YtogikhohkbcccaaGreatDoorRows.lean that lists a variable, with what it lists TIED to the program's text (the seventh form; the later family's looks); each row that meets fmt, with fmt's text TOLD by the authors' own Lean function (tested against real Go, not proved from fmt's source: count such statements apart). THE CARD IS WHAT COUNTS. Prove the row's statement (the work); the ties are given (YtogikhohkbcccaaGreatDoorTie.lean); close each card by the builder's one call (the guide's Derived/Test/ToyasCard.lean, 'card_holds'). Laid BY PROGRAM, IN A SANDBOX (cutbox-door.mjs). By AI agents, Wed Nov 11 2026. No macro, syntax, notation, axiom, sorry.
-/
import Derived.Test.YtogikhohkbcccaaGreatDoorRows
import GoSem.ClaimSeven
namespace Go.Proofs.YtogikhohkbcccaaGreatDoor
namespace Rows

/-- THE TIED CARD OF 'laws.FnVtNumber'. -/
def fnVtNumberCard : Claim7 := { stood := { row := fnVtNumberRow, standIns := [], harness := (true, "68e207ded4de6f2e15961c33fb80831937d23556fa584437c4374a525e2aed01"), looks := true }, kinds := [], alts := [], laidByText := true, laidKinds := [.data, .data, .widerDeep, .widerDeep, .data, .data, .data, .data, .data, .sentinel, .sentinel, .pinned, .pinned], laidTests := true, laidLooks := .later }
def FnVtNumberCardSaid : Prop := Claim7.holds Tryz.pinned (.plain (OpenSpec.ofChange fnVtNumberSpec)) fnVtNumberCard

/-- THE SECOND FORM's CARD OF 'laws.FnVtNumber'. -/
def fnVtNumberUptoCard : Claim7 := { stood := { row := fnVtNumberUptoRow, standIns := [], harness := (true, "68e207ded4de6f2e15961c33fb80831937d23556fa584437c4374a525e2aed01"), looks := true }, kinds := [], alts := [], laidByText := true, laidKinds := [.data, .data, .widerDeep, .widerDeep, .data, .data, .data, .data, .data, .sentinel, .sentinel, .pinned, .pinned], laidTests := true, laidLooks := .later }
def FnVtNumberUptoCardSaid : Prop := Claim7.holds Tryz.pinned (.plain (OpenSpec.upto fnVtNumberSpec)) fnVtNumberUptoCard
end Rows
end Go.Proofs.YtogikhohkbcccaaGreatDoor
