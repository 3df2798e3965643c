/-
  No cell of these rows narrows 'for every input' (looked for: loops, veiled, ifaces, maps, wideKeys, modest, calm, conditions, laid).
  DERIVED. THE GIVEN ROWS OF THIS SEAT. 1 by the template 'for every input the law returns true; each argument reads behind the call as it read before'; 0 by the template 'total and deterministic' (their statements: YbulkdbomTotals.lean).
  GIVEN WITH THE SEED: the statements are not yours to turn. If you find one false, say at which input.
  Laid BY PROGRAM, IN A SANDBOX (cutbox-rows.mjs): the forced cells as the released guide's own fill.sh prints them over the translation 766b6fa0ff86e7d3… (all of the seat's roots in one cut). By AI agents, Wed Nov 11 2026. No macro, syntax, notation, axiom, sorry.
-/
import Derived.Test.YbulkdbomChecked
import GoSem.Claim
import GoSem.ClaimJoined
import GoSem.ClaimMapViews
import Derived.JoinedTies
import Derived.KernelRfl
namespace Go.Proofs.Ybulkdbom
/- THE CELL 'sum', in the pinned program and in every row, IS THE sha256 OF THE DUMP (.gsa) THAT YbulkdbomProg.lean LOADS. Nothing in Lean hashes anything: it is a label: what it is worth is what the hold of that sum in a sandbox is worth. -/
noncomputable def Yba.pinned : Pinned := { name := "ybulkdbom", sum := "766b6fa0ff86e7d3e6a7eaa4378ffa64551ecdc2cd94ebc838a73d4a25f3c6e7", checked := Yba.checked }
namespace Rows
def none {H : Type} : Left H := { results := [], args := [] }

/-- 'node.LawS5147BBytes': WHATEVER THE INPUT: true; the input reads as it did. -/
def lawS5147BBytesSpec : ChangeSpec := { name := "lawS5147BBytes", fn := fun _ => fun
  | [d1, d2, d3] => { results := [.lit (.bool true)], args := [d1, d2, d3] }
  | _ => none }
def lawS5147BBytesRow : OpenClaim := { program := "ybulkdbom", sum := "766b6fa0ff86e7d3e6a7eaa4378ffa64551ecdc2cd94ebc838a73d4a25f3c6e7", func := "example.com/chronomesh/chronomesh/node.LawS5147BBytes", spec := "lawS5147BBytes", apart := false }
def LawS5147BBytesSaid : Prop := lawS5147BBytesRow.holds Yba.pinned (OpenSpec.ofChange lawS5147BBytesSpec)

/-- ITS FALSE NEIGHBOUR: 'it returns false'. Refute it at one input. -/
def lawS5147BBytesWrong : ChangeSpec := { name := "lawS5147BBytes", fn := fun _ => fun
  | [d1, d2, d3] => { results := [.lit (.bool false)], args := [d1, d2, d3] }
  | _ => none }
def LawS5147BBytesWrongFalsely : Prop := lawS5147BBytesRow.holds Yba.pinned (OpenSpec.ofChange lawS5147BBytesWrong)

end Rows
end Go.Proofs.Ybulkdbom
