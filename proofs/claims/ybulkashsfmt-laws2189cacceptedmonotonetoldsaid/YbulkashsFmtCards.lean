/-
  DERIVED. GIVEN WITH THE SEED: THE CARDS: each row of YbulkashsFmtRows.lean that lists a variable, with what it lists TIED to the program's text (the seventh form; the later family's looks); each row that meets fmt, with fmt's text TOLD by the authors' own Lean function (tested against real Go, not proved from fmt's source: count such statements apart). THE CARD IS WHAT COUNTS. Prove the row's statement (the work); the ties are given (YbulkashsFmtTie.lean); close each card by the builder's one call (the guide's Derived/Test/ToyasCard.lean, 'card_holds'). Laid BY PROGRAM, IN A SANDBOX (cutbox-door.mjs). By AI agents, Wed Nov 11 2026. No macro, syntax, notation, axiom, sorry.
-/
import Derived.Test.YbulkashsFmtRows
import GoSem.ClaimSeven
namespace Go.Proofs.YbulkashsFmt
namespace Rows

/-- THE TOLD CARD OF 'protocol.LawS2189CNoSequencer'. -/
def lawS2189CNoSequencerCard : Claim7 := { stood := { row := lawS2189CNoSequencerRow, standIns := [], harness := (true, "641228bb7789342e544dd8871d9adbf3dd60e2b0c6a5d9bae6c8a6bdfbff90b9"), looks := false }, told := true, goes := false }
def LawS2189CNoSequencerToldSaid : Prop := Claim7.holds Ybaf.pinned (.plain (OpenSpec.ofChange lawS2189CNoSequencerSpec)) lawS2189CNoSequencerCard
/-- ITS FALSE NEIGHBOUR. Refute it at one input. -/
def LawS2189CNoSequencerToldWrongFalsely : Prop := Claim7.holds Ybaf.pinned (.plain (OpenSpec.ofChange lawS2189CNoSequencerWrong)) lawS2189CNoSequencerCard

/-- THE TOLD CARD OF 'protocol.LawS2189CAcceptedMonotone'. -/
def lawS2189CAcceptedMonotoneCard : Claim7 := { stood := { row := lawS2189CAcceptedMonotoneRow, standIns := [], harness := (true, "641228bb7789342e544dd8871d9adbf3dd60e2b0c6a5d9bae6c8a6bdfbff90b9"), looks := false }, told := true, goes := false }
def LawS2189CAcceptedMonotoneToldSaid : Prop := Claim7.holds Ybaf.pinned (.plain (OpenSpec.ofChange lawS2189CAcceptedMonotoneSpec)) lawS2189CAcceptedMonotoneCard
/-- ITS FALSE NEIGHBOUR. Refute it at one input. -/
def LawS2189CAcceptedMonotoneToldWrongFalsely : Prop := Claim7.holds Ybaf.pinned (.plain (OpenSpec.ofChange lawS2189CAcceptedMonotoneWrong)) lawS2189CAcceptedMonotoneCard
end Rows
end Go.Proofs.YbulkashsFmt
