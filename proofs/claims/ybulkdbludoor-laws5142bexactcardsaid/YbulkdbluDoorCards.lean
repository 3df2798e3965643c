/-
  DERIVED. GIVEN WITH THE SEED: THE CARDS: each row of YbulkdbluDoorRows.lean that lists a variable, with what it lists TIED to the program's text (the seventh form; the later family's looks); each row that meets fmt, with fmt's text TOLD by the authors' own Lean function (tested against real Go, not proved from fmt's source: count such statements apart). THE CARD IS WHAT COUNTS. Prove the row's statement (the work); the ties are given (YbulkdbluDoorTie.lean); close each card by the builder's one call (the guide's Derived/Test/ToyasCard.lean, 'card_holds'). Laid BY PROGRAM, IN A SANDBOX (cutbox-door.mjs). By AI agents, Wed Nov 11 2026. No macro, syntax, notation, axiom, sorry.
-/
import Derived.Test.YbulkdbluDoorRows
import GoSem.ClaimSeven
namespace Go.Proofs.YbulkdbluDoor
namespace Rows

/-- THE TIED CARD OF 'sinefold.LawS5142BExact'. -/
def lawS5142BExactCard : Claim7 := { stood := { row := lawS5142BExactRow, standIns := [], harness := (true, "91676afe8bdd1e3f1f0c21ccc876c7e02ccacfb8b4eeee5acbc3d5e6ca98e8a7"), looks := true }, kinds := [], alts := [], laidByText := true, laidKinds := [.sentinel], laidTests := true, laidLooks := .later }
def LawS5142BExactCardSaid : Prop := Claim7.holds Ybad.pinned (.plain (OpenSpec.ofChange lawS5142BExactSpec)) lawS5142BExactCard

/-- THE TIED CARD OF 'sinefold.LawS5142BRefuse'. -/
def lawS5142BRefuseCard : Claim7 := { stood := { row := lawS5142BRefuseRow, standIns := [], harness := (true, "91676afe8bdd1e3f1f0c21ccc876c7e02ccacfb8b4eeee5acbc3d5e6ca98e8a7"), looks := true }, kinds := [], alts := [], laidByText := true, laidKinds := [.sentinel], laidTests := true, laidLooks := .later }
def LawS5142BRefuseCardSaid : Prop := Claim7.holds Ybad.pinned (.plain (OpenSpec.ofChange lawS5142BRefuseSpec)) lawS5142BRefuseCard

/-- THE TIED CARD OF 'sinefold.LawS5142CFill'. -/
def lawS5142CFillCard : Claim7 := { stood := { row := lawS5142CFillRow, standIns := [], harness := (true, "91676afe8bdd1e3f1f0c21ccc876c7e02ccacfb8b4eeee5acbc3d5e6ca98e8a7"), looks := true }, kinds := [], alts := [], laidByText := true, laidKinds := [.sentinel], laidTests := true, laidLooks := .later }
def LawS5142CFillCardSaid : Prop := Claim7.holds Ybad.pinned (.plain (OpenSpec.ofChange lawS5142CFillSpec)) lawS5142CFillCard
end Rows
end Go.Proofs.YbulkdbluDoor
