/-
  No cell of these rows narrows 'for every input' (looked for: loops, veiled, ifaces, maps, wideKeys, modest, calm, conditions, laid).
  DERIVED. THE GIVEN ROWS OF THIS SEAT. 2 by the template 'for every input the law returns true; each argument reads behind the call as it read before'; 0 by the template 'total and deterministic' (their statements: YbulkashsTotals.lean).
  GIVEN WITH THE SEED: the statements are not yours to turn. If you find one false, say at which input.
  Laid BY PROGRAM, IN A SANDBOX (cutbox-rows.mjs): the forced cells as the released guide's own fill.sh prints them over the translation 28122956c9e8043a… (all of the seat's roots in one cut). By AI agents, Wed Nov 11 2026. No macro, syntax, notation, axiom, sorry.
-/
import Derived.Test.YbulkashsChecked
import GoSem.Claim
import GoSem.ClaimJoined
import GoSem.ClaimMapViews
import Derived.JoinedTies
import Derived.KernelRfl
namespace Go.Proofs.Ybulkashs
/- THE CELL 'sum', in the pinned program and in every row, IS THE sha256 OF THE DUMP (.gsa) THAT YbulkashsProg.lean LOADS. Nothing in Lean hashes anything: it is a label: what it is worth is what the hold of that sum in a sandbox is worth. -/
noncomputable def Yba.pinned : Pinned := { name := "ybulkashs", sum := "28122956c9e8043aae293ddd4a46233872254190f5ef24d37058db99fe5d6c6e", checked := Yba.checked }
namespace Rows
def none {H : Type} : Left H := { results := [], args := [] }

/-- 'protocol.LawS2189AExact': WHATEVER THE INPUT: true; the input reads as it did. -/
def lawS2189AExactSpec : ChangeSpec := { name := "lawS2189AExact", fn := fun _ => fun
  | [d1, d2, d3] => { results := [.lit (.bool true)], args := [d1, d2, d3] }
  | _ => none }
def lawS2189AExactRow : OpenClaim := { program := "ybulkashs", sum := "28122956c9e8043aae293ddd4a46233872254190f5ef24d37058db99fe5d6c6e", func := "crier.example/crier/internal/protocol.LawS2189AExact", spec := "lawS2189AExact", unfollowed := true, recurses := true, plainKeys := false, apart := false }
def LawS2189AExactSaid : Prop := lawS2189AExactRow.holds Yba.pinned (OpenSpec.ofChange lawS2189AExactSpec)

/-- ITS FALSE NEIGHBOUR: 'it returns false'. Refute it at one input. -/
def lawS2189AExactWrong : ChangeSpec := { name := "lawS2189AExact", fn := fun _ => fun
  | [d1, d2, d3] => { results := [.lit (.bool false)], args := [d1, d2, d3] }
  | _ => none }
def LawS2189AExactWrongFalsely : Prop := lawS2189AExactRow.holds Yba.pinned (OpenSpec.ofChange lawS2189AExactWrong)

/-- 'protocol.LawS2189AFloor': WHATEVER THE INPUT: true; the input reads as it did. -/
def lawS2189AFloorSpec : ChangeSpec := { name := "lawS2189AFloor", fn := fun _ => fun
  | [d1, d2, d3] => { results := [.lit (.bool true)], args := [d1, d2, d3] }
  | _ => none }
def lawS2189AFloorRow : OpenClaim := { program := "ybulkashs", sum := "28122956c9e8043aae293ddd4a46233872254190f5ef24d37058db99fe5d6c6e", func := "crier.example/crier/internal/protocol.LawS2189AFloor", spec := "lawS2189AFloor", unfollowed := true, recurses := true, plainKeys := false, apart := false }
def LawS2189AFloorSaid : Prop := lawS2189AFloorRow.holds Yba.pinned (OpenSpec.ofChange lawS2189AFloorSpec)

/-- ITS FALSE NEIGHBOUR: 'it returns false'. Refute it at one input. -/
def lawS2189AFloorWrong : ChangeSpec := { name := "lawS2189AFloor", fn := fun _ => fun
  | [d1, d2, d3] => { results := [.lit (.bool false)], args := [d1, d2, d3] }
  | _ => none }
def LawS2189AFloorWrongFalsely : Prop := lawS2189AFloorRow.holds Yba.pinned (OpenSpec.ofChange lawS2189AFloorWrong)

end Rows
end Go.Proofs.Ybulkashs
