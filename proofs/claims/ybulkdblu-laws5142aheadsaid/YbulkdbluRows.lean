/-
  No cell of these rows narrows 'for every input' (looked for: loops, veiled, ifaces, maps, wideKeys, modest, calm, conditions, laid).
  DERIVED. THE GIVEN ROWS OF THIS SEAT. 1 by the template 'for every input the law returns true; each argument reads behind the call as it read before'; 0 by the template 'total and deterministic' (their statements: YbulkdbluTotals.lean).
  GIVEN WITH THE SEED: the statements are not yours to turn. If you find one false, say at which input.
  Laid BY PROGRAM, IN A SANDBOX (cutbox-rows.mjs): the forced cells as the released guide's own fill.sh prints them over the translation 126cac33deaca647… (all of the seat's roots in one cut). By AI agents, Wed Nov 11 2026. No macro, syntax, notation, axiom, sorry.
-/
import Derived.Test.YbulkdbluChecked
import GoSem.Claim
import GoSem.ClaimJoined
import GoSem.ClaimMapViews
import Derived.JoinedTies
import Derived.KernelRfl
namespace Go.Proofs.Ybulkdblu
/- THE CELL 'sum', in the pinned program and in every row, IS THE sha256 OF THE DUMP (.gsa) THAT YbulkdbluProg.lean LOADS. Nothing in Lean hashes anything: it is a label: what it is worth is what the hold of that sum in a sandbox is worth. -/
noncomputable def Yba.pinned : Pinned := { name := "ybulkdblu", sum := "126cac33deaca64750ca8daf27a6166e921a0088a577e2b2d71a421640df9887", checked := Yba.checked }
namespace Rows
def none {H : Type} : Left H := { results := [], args := [] }

/-- 'sinefold.LawS5142AHead': WHATEVER THE INPUT: true; the input reads as it did. -/
def lawS5142AHeadSpec : ChangeSpec := { name := "lawS5142AHead", fn := fun _ => fun
  | [d1, d2, d3, d4, d5, d6] => { results := [.lit (.bool true)], args := [d1, d2, d3, d4, d5, d6] }
  | _ => none }
def lawS5142AHeadRow : OpenClaim := { program := "ybulkdblu", sum := "126cac33deaca64750ca8daf27a6166e921a0088a577e2b2d71a421640df9887", func := "example.com/sinefold/sinefold.LawS5142AHead", spec := "lawS5142AHead", apart := false }
def LawS5142AHeadSaid : Prop := lawS5142AHeadRow.holds Yba.pinned (OpenSpec.ofChange lawS5142AHeadSpec)

/-- ITS FALSE NEIGHBOUR: 'it returns false'. Refute it at one input. -/
def lawS5142AHeadWrong : ChangeSpec := { name := "lawS5142AHead", fn := fun _ => fun
  | [d1, d2, d3, d4, d5, d6] => { results := [.lit (.bool false)], args := [d1, d2, d3, d4, d5, d6] }
  | _ => none }
def LawS5142AHeadWrongFalsely : Prop := lawS5142AHeadRow.holds Yba.pinned (OpenSpec.ofChange lawS5142AHeadWrong)

end Rows
end Go.Proofs.Ybulkdblu
