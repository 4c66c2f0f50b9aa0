/-
  No cell of these rows narrows 'for every input' (looked for: loops, veiled, ifaces, maps, wideKeys, modest, calm, conditions, laid).
  DERIVED. THE GIVEN ROWS OF THIS SEAT. 2 by the template 'for every input the law returns true; each argument reads behind the call as it read before'; 0 by the template 'total and deterministic' (their statements: YbulkashsFmtTotals.lean).
  GIVEN WITH THE SEED: the statements are not yours to turn. If you find one false, say at which input.
  Laid BY PROGRAM, IN A SANDBOX (cutbox-rows.mjs): the forced cells as the released guide's own fill.sh prints them over the translation e4ca88551059488c… (all of the seat's roots in one cut). By AI agents, Wed Nov 11 2026. No macro, syntax, notation, axiom, sorry.
-/
import Derived.Test.YbulkashsFmtChecked
import GoSem.Claim
import GoSem.ClaimJoined
import GoSem.ClaimMapViews
import Derived.JoinedTies
import Derived.KernelRfl
namespace Go.Proofs.YbulkashsFmt
/- THE CELL 'sum', in the pinned program and in every row, IS THE sha256 OF THE DUMP (.gsa) THAT YbulkashsFmtProg.lean LOADS. Nothing in Lean hashes anything: it is a label: what it is worth is what the hold of that sum in a sandbox is worth. -/
noncomputable def Ybaf.pinned : Pinned := { name := "ybulkashsfmt", sum := "e4ca88551059488c9b853b116cd18b959d88fd0ce07ac13ee492ac683a61848a", checked := Ybaf.checked }
namespace Rows
def none {H : Type} : Left H := { results := [], args := [] }

/-- 'protocol.LawS2189CNoSequencer': WHATEVER THE INPUT: true; the input reads as it did. -/
def lawS2189CNoSequencerSpec : ChangeSpec := { name := "lawS2189CNoSequencer", fn := fun _ => fun
  | [d1, d2, d3] => { results := [.lit (.bool true)], args := [d1, d2, d3] }
  | _ => none }
def lawS2189CNoSequencerRow : OpenClaim := { program := "ybulkashsfmt", sum := "e4ca88551059488c9b853b116cd18b959d88fd0ce07ac13ee492ac683a61848a", func := "crier.example/crier/internal/protocol.LawS2189CNoSequencer", spec := "lawS2189CNoSequencer", stops := ["fmt.Sprintf"], inPlace := ["fmt.Sprintf"], unfollowed := true, recurses := true, plainKeys := false, apart := false }
/-- NO THEOREM (fmt's text is open here; it may be false): for the released tool's asking of the row's closed facts alone. THE STATEMENT IS 'LawS2189CNoSequencerToldSaid' (YbulkashsFmtCards.lean). -/
def LawS2189CNoSequencerFormAsk : Prop := lawS2189CNoSequencerRow.holds Ybaf.pinned (OpenSpec.ofChange lawS2189CNoSequencerSpec)

/-- ITS FALSE NEIGHBOUR: 'it returns false'. Refute it at one input. -/
def lawS2189CNoSequencerWrong : ChangeSpec := { name := "lawS2189CNoSequencer", fn := fun _ => fun
  | [d1, d2, d3] => { results := [.lit (.bool false)], args := [d1, d2, d3] }
  | _ => none }
def LawS2189CNoSequencerWrongFormAsk : Prop := lawS2189CNoSequencerRow.holds Ybaf.pinned (OpenSpec.ofChange lawS2189CNoSequencerWrong)

/-- 'protocol.LawS2189CAcceptedMonotone': WHATEVER THE INPUT: true; the input reads as it did. -/
def lawS2189CAcceptedMonotoneSpec : ChangeSpec := { name := "lawS2189CAcceptedMonotone", fn := fun _ => fun
  | [d1, d2, d3, d4] => { results := [.lit (.bool true)], args := [d1, d2, d3, d4] }
  | _ => none }
def lawS2189CAcceptedMonotoneRow : OpenClaim := { program := "ybulkashsfmt", sum := "e4ca88551059488c9b853b116cd18b959d88fd0ce07ac13ee492ac683a61848a", func := "crier.example/crier/internal/protocol.LawS2189CAcceptedMonotone", spec := "lawS2189CAcceptedMonotone", stops := ["fmt.Sprintf"], inPlace := ["fmt.Sprintf"], unfollowed := true, recurses := true, plainKeys := false, apart := false }
/-- NO THEOREM (fmt's text is open here; it may be false): for the released tool's asking of the row's closed facts alone. THE STATEMENT IS 'LawS2189CAcceptedMonotoneToldSaid' (YbulkashsFmtCards.lean). -/
def LawS2189CAcceptedMonotoneFormAsk : Prop := lawS2189CAcceptedMonotoneRow.holds Ybaf.pinned (OpenSpec.ofChange lawS2189CAcceptedMonotoneSpec)

/-- ITS FALSE NEIGHBOUR: 'it returns false'. Refute it at one input. -/
def lawS2189CAcceptedMonotoneWrong : ChangeSpec := { name := "lawS2189CAcceptedMonotone", fn := fun _ => fun
  | [d1, d2, d3, d4] => { results := [.lit (.bool false)], args := [d1, d2, d3, d4] }
  | _ => none }
def LawS2189CAcceptedMonotoneWrongFormAsk : Prop := lawS2189CAcceptedMonotoneRow.holds Ybaf.pinned (OpenSpec.ofChange lawS2189CAcceptedMonotoneWrong)

end Rows
end Go.Proofs.YbulkashsFmt
