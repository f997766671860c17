/-
  DERIVED. GIVEN WITH THE SEED: THE CARDS: each row of YtdjjgnplpjoabaaGreatDoorRows.lean that lists a variable, with what it lists TIED to the program's text (the seventh form; the later family's looks); each row that meets fmt, with fmt's text TOLD by the authors' own Lean function (tested against real Go, not proved from fmt's source: count such statements apart). THE CARD IS WHAT COUNTS. Prove the row's statement (the work); the ties are given (YtdjjgnplpjoabaaGreatDoorTie.lean); close each card by the builder's one call (the guide's Derived/Test/ToyasCard.lean, 'card_holds'). Laid BY PROGRAM, IN A SANDBOX (cutbox-door.mjs). By AI agents, Wed Nov 11 2026. No macro, syntax, notation, axiom, sorry.
-/
import Derived.Test.YtdjjgnplpjoabaaGreatDoorRows
import GoSem.ClaimSeven
namespace Go.Proofs.YtdjjgnplpjoabaaGreatDoor
namespace Rows

/-- THE TIED CARD OF 'laws.FnReadNumberBack'. -/
def fnReadNumberBackCard : Claim7 := { stood := { row := fnReadNumberBackRow, standIns := [], harness := (true, "563d0dde10feee52269a398e86ffb1a6ae181202e60d663300d6dedf1bfbb744"), looks := true }, kinds := [], alts := [], laidByText := true, laidKinds := [.data, .data, .widerDeep, .widerDeep, .data, .data, .data, .data, .data, .data, .sentinel, .sentinel, .sentinel, .sentinel, .data, .pinned, .pinned, .pinned], laidTests := true, laidLooks := .later }
def FnReadNumberBackCardSaid : Prop := Claim7.holds Tryz.pinned (.plain (OpenSpec.ofChange fnReadNumberBackSpec)) fnReadNumberBackCard

/-- THE SECOND FORM's CARD OF 'laws.FnReadNumberBack'. -/
def fnReadNumberBackUptoCard : Claim7 := { stood := { row := fnReadNumberBackUptoRow, standIns := [], harness := (true, "563d0dde10feee52269a398e86ffb1a6ae181202e60d663300d6dedf1bfbb744"), looks := true }, kinds := [], alts := [], laidByText := true, laidKinds := [.data, .data, .widerDeep, .widerDeep, .data, .data, .data, .data, .data, .data, .sentinel, .sentinel, .sentinel, .sentinel, .data, .pinned, .pinned, .pinned], laidTests := true, laidLooks := .later }
def FnReadNumberBackUptoCardSaid : Prop := Claim7.holds Tryz.pinned (.plain (OpenSpec.upto fnReadNumberBackSpec)) fnReadNumberBackUptoCard
end Rows
end Go.Proofs.YtdjjgnplpjoabaaGreatDoor
