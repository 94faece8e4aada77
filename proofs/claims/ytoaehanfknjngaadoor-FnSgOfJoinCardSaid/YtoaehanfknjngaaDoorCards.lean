/-
  DERIVED. GIVEN WITH THE SEED: THE CARDS: each row of YtoaehanfknjngaaDoorRows.lean that lists a variable, with what it lists TIED to the program's text (the seventh form; the later family's looks); each row that meets fmt, with fmt's text TOLD by the authors' own Lean function (tested against real Go, not proved from fmt's source: count such statements apart). THE CARD IS WHAT COUNTS. Prove the row's statement (the work); the ties are given (YtoaehanfknjngaaDoorTie.lean); close each card by the builder's one call (the guide's Derived/Test/ToyasCard.lean, 'card_holds'). Laid BY PROGRAM, IN A SANDBOX (cutbox-door.mjs). By AI agents, Wed Nov 11 2026. No macro, syntax, notation, axiom, sorry.
-/
import Derived.Test.YtoaehanfknjngaaDoorRows
import GoSem.ClaimSeven
namespace Go.Proofs.YtoaehanfknjngaaDoor
namespace Rows

/-- THE TIED CARD OF 'laws.FnSgOfJoin'. -/
def fnSgOfJoinCard : Claim7 := { stood := { row := fnSgOfJoinRow, standIns := [], harness := (true, "734bdcd97413eb4b1735d32d95a2551b3e1689b2a79a4bacad2b9e380ce0485e"), looks := true }, kinds := [], alts := [], laidByText := true, laidKinds := [.data, .sentinel, .pinned], laidTests := true, laidLooks := .later }
def FnSgOfJoinCardSaid : Prop := Claim7.holds Tryd.pinned (.plain (OpenSpec.ofChange fnSgOfJoinSpec)) fnSgOfJoinCard

/-- THE SECOND FORM's CARD OF 'laws.FnSgOfJoin'. -/
def fnSgOfJoinUptoCard : Claim7 := { stood := { row := fnSgOfJoinUptoRow, standIns := [], harness := (true, "734bdcd97413eb4b1735d32d95a2551b3e1689b2a79a4bacad2b9e380ce0485e"), looks := true }, kinds := [], alts := [], laidByText := true, laidKinds := [.data, .sentinel, .pinned], laidTests := true, laidLooks := .later }
def FnSgOfJoinUptoCardSaid : Prop := Claim7.holds Tryd.pinned (.plain (OpenSpec.upto fnSgOfJoinSpec)) fnSgOfJoinUptoCard
end Rows
end Go.Proofs.YtoaehanfknjngaaDoor
