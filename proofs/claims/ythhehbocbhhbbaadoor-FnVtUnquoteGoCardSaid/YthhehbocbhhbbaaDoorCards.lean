/-
  DERIVED. GIVEN WITH THE SEED: THE CARDS: each row of YthhehbocbhhbbaaDoorRows.lean that lists a variable, with what it lists TIED to the program's text (the seventh form; the later family's looks); each row that meets fmt, with fmt's text TOLD by the authors' own Lean function (tested against real Go, not proved from fmt's source: count such statements apart). THE CARD IS WHAT COUNTS. Prove the row's statement (the work); the ties are given (YthhehbocbhhbbaaDoorTie.lean); close each card by the builder's one call (the guide's Derived/Test/ToyasCard.lean, 'card_holds'). Laid BY PROGRAM, IN A SANDBOX (cutbox-door.mjs). By AI agents, Wed Nov 11 2026. No macro, syntax, notation, axiom, sorry.
-/
import Derived.Test.YthhehbocbhhbbaaDoorRows
import GoSem.ClaimSeven
namespace Go.Proofs.YthhehbocbhhbbaaDoor
namespace Rows

/-- THE TIED CARD OF 'laws.FnVtUnquote'. -/
def fnVtUnquoteCard : Claim7 := { stood := { row := fnVtUnquoteRow, standIns := [], harness := (true, "4c1041262e070b86f64511ba5cceedb200f7c2abc0747cead10d7cda34177e8a"), looks := true }, kinds := [], alts := [], laidByText := true, laidKinds := [.data, .data, .data, .data, .sentinel, .sentinel, .sentinel, .pinned], laidTests := true, laidLooks := .later }
def FnVtUnquoteCardSaid : Prop := Claim7.holds Tryd.pinned (.plain (OpenSpec.ofChange fnVtUnquoteSpec)) fnVtUnquoteCard

/-- THE TIED CARD OF 'laws.FnVtUnquoteJoin'. -/
def fnVtUnquoteJoinCard : Claim7 := { stood := { row := fnVtUnquoteJoinRow, standIns := [], harness := (true, "4c1041262e070b86f64511ba5cceedb200f7c2abc0747cead10d7cda34177e8a"), looks := true }, kinds := [], alts := [], laidByText := true, laidKinds := [.data, .data, .data, .data, .sentinel, .sentinel, .sentinel, .pinned], laidTests := true, laidLooks := .later }
def FnVtUnquoteJoinCardSaid : Prop := Claim7.holds Tryd.pinned (.plain (OpenSpec.ofChange fnVtUnquoteJoinSpec)) fnVtUnquoteJoinCard

/-- THE TIED CARD OF 'laws.FnVtUnquoteGo'. -/
def fnVtUnquoteGoCard : Claim7 := { stood := { row := fnVtUnquoteGoRow, standIns := [], harness := (true, "4c1041262e070b86f64511ba5cceedb200f7c2abc0747cead10d7cda34177e8a"), looks := true }, kinds := [], alts := [], laidByText := true, laidKinds := [.data, .data, .data, .data, .sentinel, .sentinel, .sentinel, .pinned, .pinned, .pinned, .pinned, .pinned, .pinned], laidTests := true, laidLooks := .later }
def FnVtUnquoteGoCardSaid : Prop := Claim7.holds Tryd.pinned (.plain (OpenSpec.ofChange fnVtUnquoteGoSpec)) fnVtUnquoteGoCard

/-- THE SECOND FORM's CARD OF 'laws.FnVtUnquote'. -/
def fnVtUnquoteUptoCard : Claim7 := { stood := { row := fnVtUnquoteUptoRow, standIns := [], harness := (true, "4c1041262e070b86f64511ba5cceedb200f7c2abc0747cead10d7cda34177e8a"), looks := true }, kinds := [], alts := [], laidByText := true, laidKinds := [.data, .data, .data, .data, .sentinel, .sentinel, .sentinel, .pinned], laidTests := true, laidLooks := .later }
def FnVtUnquoteUptoCardSaid : Prop := Claim7.holds Tryd.pinned (.plain (OpenSpec.upto fnVtUnquoteSpec)) fnVtUnquoteUptoCard

/-- THE SECOND FORM's CARD OF 'laws.FnVtUnquoteJoin'. -/
def fnVtUnquoteJoinUptoCard : Claim7 := { stood := { row := fnVtUnquoteJoinUptoRow, standIns := [], harness := (true, "4c1041262e070b86f64511ba5cceedb200f7c2abc0747cead10d7cda34177e8a"), looks := true }, kinds := [], alts := [], laidByText := true, laidKinds := [.data, .data, .data, .data, .sentinel, .sentinel, .sentinel, .pinned], laidTests := true, laidLooks := .later }
def FnVtUnquoteJoinUptoCardSaid : Prop := Claim7.holds Tryd.pinned (.plain (OpenSpec.upto fnVtUnquoteJoinSpec)) fnVtUnquoteJoinUptoCard

/-- THE SECOND FORM's CARD OF 'laws.FnVtUnquoteGo'. -/
def fnVtUnquoteGoUptoCard : Claim7 := { stood := { row := fnVtUnquoteGoUptoRow, standIns := [], harness := (true, "4c1041262e070b86f64511ba5cceedb200f7c2abc0747cead10d7cda34177e8a"), looks := true }, kinds := [], alts := [], laidByText := true, laidKinds := [.data, .data, .data, .data, .sentinel, .sentinel, .sentinel, .pinned, .pinned, .pinned, .pinned, .pinned, .pinned], laidTests := true, laidLooks := .later }
def FnVtUnquoteGoUptoCardSaid : Prop := Claim7.holds Tryd.pinned (.plain (OpenSpec.upto fnVtUnquoteGoSpec)) fnVtUnquoteGoUptoCard
end Rows
end Go.Proofs.YthhehbocbhhbbaaDoor
