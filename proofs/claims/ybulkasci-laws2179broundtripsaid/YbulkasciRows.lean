/-
  No cell of these rows narrows 'for every input' (looked for: loops, veiled, ifaces, maps, wideKeys, modest, calm, conditions, laid).
  DERIVED. THE GIVEN ROWS OF THIS SEAT. 2 by the template 'for every input the law returns true; each argument reads behind the call as it read before'; 0 by the template 'total and deterministic' (their statements: YbulkasciTotals.lean).
  GIVEN WITH THE SEED: the statements are not yours to turn. If you find one false, say at which input.
  Laid BY PROGRAM, IN A SANDBOX (cutbox-rows.mjs): the forced cells as the released guide's own fill.sh prints them over the translation 9f1c34ca8615de5f… (all of the seat's roots in one cut). By AI agents, Wed Nov 11 2026. No macro, syntax, notation, axiom, sorry.
-/
import Derived.Test.YbulkasciChecked
import GoSem.Claim
import GoSem.ClaimJoined
import GoSem.ClaimMapViews
import Derived.JoinedTies
import Derived.KernelRfl
namespace Go.Proofs.Ybulkasci
/- THE CELL 'sum', in the pinned program and in every row, IS THE sha256 OF THE DUMP (.gsa) THAT YbulkasciProg.lean LOADS. Nothing in Lean hashes anything: it is a label: what it is worth is what the hold of that sum in a sandbox is worth. -/
noncomputable def Yba.pinned : Pinned := { name := "ybulkasci", sum := "9f1c34ca8615de5ff8a34c333ac265f8fc0494abf8e2c1af3905ce03204d560a", checked := Yba.checked }
namespace Rows
def none {H : Type} : Left H := { results := [], args := [] }

/-- 'logwright.LawS2179BLittleEndian': WHATEVER THE INPUT: true; the input reads as it did. -/
def lawS2179BLittleEndianSpec : ChangeSpec := { name := "lawS2179BLittleEndian", fn := fun _ => fun
  | [d1, d2] => { results := [.lit (.bool true)], args := [d1, d2] }
  | _ => none }
def lawS2179BLittleEndianRow : OpenClaim := { program := "ybulkasci", sum := "9f1c34ca8615de5ff8a34c333ac265f8fc0494abf8e2c1af3905ce03204d560a", func := "example.com/logwright/logwright.LawS2179BLittleEndian", spec := "lawS2179BLittleEndian", apart := false }
def LawS2179BLittleEndianSaid : Prop := lawS2179BLittleEndianRow.holds Yba.pinned (OpenSpec.ofChange lawS2179BLittleEndianSpec)

/-- ITS FALSE NEIGHBOUR: 'it returns false'. Refute it at one input. -/
def lawS2179BLittleEndianWrong : ChangeSpec := { name := "lawS2179BLittleEndian", fn := fun _ => fun
  | [d1, d2] => { results := [.lit (.bool false)], args := [d1, d2] }
  | _ => none }
def LawS2179BLittleEndianWrongFalsely : Prop := lawS2179BLittleEndianRow.holds Yba.pinned (OpenSpec.ofChange lawS2179BLittleEndianWrong)

/-- 'logwright.LawS2179BRoundTrip': WHATEVER THE INPUT: true; the input reads as it did. -/
def lawS2179BRoundTripSpec : ChangeSpec := { name := "lawS2179BRoundTrip", fn := fun _ => fun
  | [d1, d2, d3] => { results := [.lit (.bool true)], args := [d1, d2, d3] }
  | _ => none }
def lawS2179BRoundTripRow : OpenClaim := { program := "ybulkasci", sum := "9f1c34ca8615de5ff8a34c333ac265f8fc0494abf8e2c1af3905ce03204d560a", func := "example.com/logwright/logwright.LawS2179BRoundTrip", spec := "lawS2179BRoundTrip", apart := false }
def LawS2179BRoundTripSaid : Prop := lawS2179BRoundTripRow.holds Yba.pinned (OpenSpec.ofChange lawS2179BRoundTripSpec)

/-- ITS FALSE NEIGHBOUR: 'it returns false'. Refute it at one input. -/
def lawS2179BRoundTripWrong : ChangeSpec := { name := "lawS2179BRoundTrip", fn := fun _ => fun
  | [d1, d2, d3] => { results := [.lit (.bool false)], args := [d1, d2, d3] }
  | _ => none }
def LawS2179BRoundTripWrongFalsely : Prop := lawS2179BRoundTripRow.holds Yba.pinned (OpenSpec.ofChange lawS2179BRoundTripWrong)

end Rows
end Go.Proofs.Ybulkasci
