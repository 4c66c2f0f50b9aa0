/-
  DERIVED. GIVEN WITH THE SEED: THE CARDS: each row of YbulkasdyDoorRows.lean that lists a variable, with what it lists TIED to the program's text (the seventh form; the later family's looks); each row that meets fmt, with fmt's text TOLD by the authors' own Lean function (tested against real Go, not proved from fmt's source: count such statements apart). THE CARD IS WHAT COUNTS. Prove the row's statement (the work); the ties are given (YbulkasdyDoorTie.lean); close each card by the builder's one call (the guide's Derived/Test/ToyasCard.lean, 'card_holds'). Laid BY PROGRAM, IN A SANDBOX (cutbox-door.mjs). By AI agents, Wed Nov 11 2026. No macro, syntax, notation, axiom, sorry.
-/
import Derived.Test.YbulkasdyDoorRows
import GoSem.ClaimSeven
namespace Go.Proofs.YbulkasdyDoor
namespace Rows

/-- THE TIED CARD OF 'mirrorkey.LawS2182AText'. -/
def lawS2182ATextCard : Claim7 := { stood := { row := lawS2182ATextRow, standIns := [], harness := (true, "1779b5a6a76f4c0c2bf43bbb4a508e4aed279fdaa6e1a1527058ee0bb1b7a433"), looks := false }, kinds := [], alts := [], laidByText := true, laidKinds := [.data, .data, .data], laidTests := true, laidLooks := .later }
def LawS2182ATextCardSaid : Prop := Claim7.holds Ybad.pinned (.plain (OpenSpec.ofChange lawS2182ATextSpec)) lawS2182ATextCard
end Rows
end Go.Proofs.YbulkasdyDoor
