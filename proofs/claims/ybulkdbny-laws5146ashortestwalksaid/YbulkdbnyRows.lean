/-
  No cell of these rows narrows 'for every input' (looked for: loops, veiled, ifaces, maps, wideKeys, modest, calm, conditions, laid).
  DERIVED. THE GIVEN ROWS OF THIS SEAT. 2 by the template 'for every input the law returns true; each argument reads behind the call as it read before'; 0 by the template 'total and deterministic' (their statements: YbulkdbnyTotals.lean).
  GIVEN WITH THE SEED: the statements are not yours to turn. If you find one false, say at which input.
  Laid BY PROGRAM, IN A SANDBOX (cutbox-rows.mjs): the forced cells as the released guide's own fill.sh prints them over the translation 7393467b7a7be31e… (all of the seat's roots in one cut). By AI agents, Wed Nov 11 2026. No macro, syntax, notation, axiom, sorry.
-/
import Derived.Test.YbulkdbnyChecked
import GoSem.Claim
import GoSem.ClaimJoined
import GoSem.ClaimMapViews
import Derived.JoinedTies
import Derived.KernelRfl
namespace Go.Proofs.Ybulkdbny
/- THE CELL 'sum', in the pinned program and in every row, IS THE sha256 OF THE DUMP (.gsa) THAT YbulkdbnyProg.lean LOADS. Nothing in Lean hashes anything: it is a label: what it is worth is what the hold of that sum in a sandbox is worth. -/
noncomputable def Yba.pinned : Pinned := { name := "ybulkdbny", sum := "7393467b7a7be31ed024bd7f197fadb2445bcd700b65ea42c1c27578ce683d66", checked := Yba.checked }
namespace Rows
def none {H : Type} : Left H := { results := [], args := [] }

/-- 'sched.LawS5146ATried': WHATEVER THE INPUT: true; the input reads as it did. -/
def lawS5146ATriedSpec : ChangeSpec := { name := "lawS5146ATried", fn := fun _ => fun
  | [d1, d2, d3, d4] => { results := [.lit (.bool true)], args := [d1, d2, d3, d4] }
  | _ => none }
def lawS5146ATriedRow : OpenClaim := { program := "ybulkdbny", sum := "7393467b7a7be31ed024bd7f197fadb2445bcd700b65ea42c1c27578ce683d66", func := "example.com/interstice/interstice/sched.LawS5146ATried", spec := "lawS5146ATried", apart := false }
def LawS5146ATriedSaid : Prop := lawS5146ATriedRow.holds Yba.pinned (OpenSpec.ofChange lawS5146ATriedSpec)

/-- ITS FALSE NEIGHBOUR: 'it returns false'. Refute it at one input. -/
def lawS5146ATriedWrong : ChangeSpec := { name := "lawS5146ATried", fn := fun _ => fun
  | [d1, d2, d3, d4] => { results := [.lit (.bool false)], args := [d1, d2, d3, d4] }
  | _ => none }
def LawS5146ATriedWrongFalsely : Prop := lawS5146ATriedRow.holds Yba.pinned (OpenSpec.ofChange lawS5146ATriedWrong)

/-- 'sched.LawS5146AShortestWalk': WHATEVER THE INPUT: true; the input reads as it did. -/
def lawS5146AShortestWalkSpec : ChangeSpec := { name := "lawS5146AShortestWalk", fn := fun _ => fun
  | [d1, d2] => { results := [.lit (.bool true)], args := [d1, d2] }
  | _ => none }
def lawS5146AShortestWalkRow : OpenClaim := { program := "ybulkdbny", sum := "7393467b7a7be31ed024bd7f197fadb2445bcd700b65ea42c1c27578ce683d66", func := "example.com/interstice/interstice/sched.LawS5146AShortestWalk", spec := "lawS5146AShortestWalk", unfollowed := true, recurses := true, apart := false }
def LawS5146AShortestWalkSaid : Prop := lawS5146AShortestWalkRow.holds Yba.pinned (OpenSpec.ofChange lawS5146AShortestWalkSpec)

/-- ITS FALSE NEIGHBOUR: 'it returns false'. Refute it at one input. -/
def lawS5146AShortestWalkWrong : ChangeSpec := { name := "lawS5146AShortestWalk", fn := fun _ => fun
  | [d1, d2] => { results := [.lit (.bool false)], args := [d1, d2] }
  | _ => none }
def LawS5146AShortestWalkWrongFalsely : Prop := lawS5146AShortestWalkRow.holds Yba.pinned (OpenSpec.ofChange lawS5146AShortestWalkWrong)

end Rows
end Go.Proofs.Ybulkdbny
