/-
  NARROWER THAN 'FOR EVERY INPUT', by the rows' own cells (each row's printed sentence says how): LawS5142BExact: ifaces, laid · LawS5142BRefuse: ifaces, laid · LawS5142CFill: laid.
  DERIVED. THE GIVEN ROWS OF THIS SEAT. 3 by the template 'for every input the law returns true; each argument reads behind the call as it read before'; 0 by the template 'total and deterministic' (their statements: YbulkdbluDoorTotals.lean).
  GIVEN WITH THE SEED: the statements are not yours to turn. If you find one false, say at which input.
  Laid BY PROGRAM, IN A SANDBOX (cutbox-rows.mjs): the forced cells as the released guide's own fill.sh prints them over the translation a79f841f5de2095b… (all of the seat's roots in one cut). By AI agents, Wed Nov 11 2026. No macro, syntax, notation, axiom, sorry.
-/
import Derived.Test.YbulkdbluDoorChecked
import GoSem.Claim
import GoSem.ClaimJoined
import GoSem.ClaimMapViews
import Derived.JoinedTies
import Derived.KernelRfl
namespace Go.Proofs.YbulkdbluDoor
/- THE CELL 'sum', in the pinned program and in every row, IS THE sha256 OF THE DUMP (.gsa) THAT YbulkdbluDoorProg.lean LOADS. Nothing in Lean hashes anything: it is a label: what it is worth is what the hold of that sum in a sandbox is worth. -/
noncomputable def Ybad.pinned : Pinned := { name := "ybulkdbludoor", sum := "a79f841f5de2095bfec5a1cfd97e592cca48f75891f6893d3481952e32433bd8", checked := Ybad.checked }
namespace Rows
def none {H : Type} : Left H := { results := [], args := [] }

/- WHAT THE LISTED PACKAGE-LEVEL VARIABLES READ AS WHEN THE CALL BEGINS. Each datum BY PROGRAM (the guide's laid-datum.mjs) off the statement by which the dump's own 'gosem.cut.vars' lays the variable. In a bare row this is a premise. The card (YbulkdbluDoorCards.lean) ties it to the program's text. -/
def laid_example_com_sinefold_sinefold_errNoPredictor {H : Type} : DataW H := .iface "*errors.errorString" (.ptr (.agg [.lit (.string [110, 111, 32, 112, 114, 101, 100, 105, 99, 116, 111, 114])]))
def laid_io_EOF {H : Type} : DataW H := .iface "*errors.errorString" (.ptr (.agg [.lit (.string [69, 79, 70])]))

/-- 'sinefold.LawS5142BExact': WHATEVER THE INPUT: true; the input reads as it did. -/
def lawS5142BExactSpec : ChangeSpec := { name := "lawS5142BExact", vars := ["example.com/sinefold/sinefold.errNoPredictor"], fn := fun _ => fun
  | [d1, d2, d3, g1] => { results := [.lit (.bool true)], args := [d1, d2, d3], vars := [g1] }
  | _ => none }
def lawS5142BExactRow : OpenClaim := { program := "ybulkdbludoor", sum := "a79f841f5de2095bfec5a1cfd97e592cca48f75891f6893d3481952e32433bd8", func := "example.com/sinefold/sinefold.LawS5142BExact", spec := "lawS5142BExact", inPlace := ["math.Float64bits", "math.Float64frombits", "math.archLog", "math.archCeil", "math.archFloor", "math.archTrunc"], named := ["example.com/sinefold/sinefold.errNoPredictor"], ifaces := true, apart := false, laid := [("example.com/sinefold/sinefold.errNoPredictor", laid_example_com_sinefold_sinefold_errNoPredictor)] }
def LawS5142BExactSaid : Prop := lawS5142BExactRow.holds Ybad.pinned (OpenSpec.ofChange lawS5142BExactSpec)

/-- ITS FALSE NEIGHBOUR: 'it returns false'. Refute it at one input. -/
def lawS5142BExactWrong : ChangeSpec := { name := "lawS5142BExact", vars := ["example.com/sinefold/sinefold.errNoPredictor"], fn := fun _ => fun
  | [d1, d2, d3, g1] => { results := [.lit (.bool false)], args := [d1, d2, d3], vars := [g1] }
  | _ => none }
def LawS5142BExactWrongFalsely : Prop := lawS5142BExactRow.holds Ybad.pinned (OpenSpec.ofChange lawS5142BExactWrong)

/-- 'sinefold.LawS5142BRefuse': WHATEVER THE INPUT: true; the input reads as it did. -/
def lawS5142BRefuseSpec : ChangeSpec := { name := "lawS5142BRefuse", vars := ["example.com/sinefold/sinefold.errNoPredictor"], fn := fun _ => fun
  | [d1, d2, d3, d4, d5, d6, g1] => { results := [.lit (.bool true)], args := [d1, d2, d3, d4, d5, d6], vars := [g1] }
  | _ => none }
def lawS5142BRefuseRow : OpenClaim := { program := "ybulkdbludoor", sum := "a79f841f5de2095bfec5a1cfd97e592cca48f75891f6893d3481952e32433bd8", func := "example.com/sinefold/sinefold.LawS5142BRefuse", spec := "lawS5142BRefuse", inPlace := ["math.Float64bits", "math.Float64frombits", "math.archLog", "math.archCeil", "math.archFloor", "math.archTrunc"], named := ["example.com/sinefold/sinefold.errNoPredictor"], ifaces := true, apart := false, laid := [("example.com/sinefold/sinefold.errNoPredictor", laid_example_com_sinefold_sinefold_errNoPredictor)] }
def LawS5142BRefuseSaid : Prop := lawS5142BRefuseRow.holds Ybad.pinned (OpenSpec.ofChange lawS5142BRefuseSpec)

/-- ITS FALSE NEIGHBOUR: 'it returns false'. Refute it at one input. -/
def lawS5142BRefuseWrong : ChangeSpec := { name := "lawS5142BRefuse", vars := ["example.com/sinefold/sinefold.errNoPredictor"], fn := fun _ => fun
  | [d1, d2, d3, d4, d5, d6, g1] => { results := [.lit (.bool false)], args := [d1, d2, d3, d4, d5, d6], vars := [g1] }
  | _ => none }
def LawS5142BRefuseWrongFalsely : Prop := lawS5142BRefuseRow.holds Ybad.pinned (OpenSpec.ofChange lawS5142BRefuseWrong)

/-- 'sinefold.LawS5142CFill': WHATEVER THE INPUT: true; the input reads as it did. -/
def lawS5142CFillSpec : ChangeSpec := { name := "lawS5142CFill", fn := fun _ => fun
  | [d1, d2, d3, d4, d5, d6] => { results := [.lit (.bool true)], args := [d1, d2, d3, d4, d5, d6] }
  | _ => none }
def lawS5142CFillRow : OpenClaim := { program := "ybulkdbludoor", sum := "a79f841f5de2095bfec5a1cfd97e592cca48f75891f6893d3481952e32433bd8", func := "example.com/sinefold/sinefold.LawS5142CFill", spec := "lawS5142CFill", unfollowed := true, recurses := true, named := ["io.EOF"], apart := false, laid := [("io.EOF", laid_io_EOF)] }
def LawS5142CFillSaid : Prop := lawS5142CFillRow.holds Ybad.pinned (OpenSpec.ofChange lawS5142CFillSpec)

/-- ITS FALSE NEIGHBOUR: 'it returns false'. Refute it at one input. -/
def lawS5142CFillWrong : ChangeSpec := { name := "lawS5142CFill", fn := fun _ => fun
  | [d1, d2, d3, d4, d5, d6] => { results := [.lit (.bool false)], args := [d1, d2, d3, d4, d5, d6] }
  | _ => none }
def LawS5142CFillWrongFalsely : Prop := lawS5142CFillRow.holds Ybad.pinned (OpenSpec.ofChange lawS5142CFillWrong)

end Rows
end Go.Proofs.YbulkdbluDoor
