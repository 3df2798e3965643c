/-
  DERIVED. GIVEN WITH THE SEED: THE CARDS: each row of YbulkdblgFmtRows.lean that lists a variable, with what it lists TIED to the program's text (the seventh form; the later family's looks); each row that meets fmt, with fmt's text TOLD by the authors' own Lean function (tested against real Go, not proved from fmt's source: count such statements apart). THE CARD IS WHAT COUNTS. Prove the row's statement (the work); the ties are given (YbulkdblgFmtTie.lean); close each card by the builder's one call (the guide's Derived/Test/ToyasCard.lean, 'card_holds'). Laid BY PROGRAM, IN A SANDBOX (cutbox-door.mjs). By AI agents, Wed Nov 11 2026. No macro, syntax, notation, axiom, sorry.
-/
import Derived.Test.YbulkdblgFmtRows
import GoSem.ClaimSeven
namespace Go.Proofs.YbulkdblgFmt
namespace Rows

/-- THE TOLD CARD OF 'server.LawS5141ARefuses'. -/
def lawS5141ARefusesCard : Claim7 := { stood := { row := lawS5141ARefusesRow, standIns := [], harness := (true, "8ee2b7b4f4b97a002c5bfa4aa5db5313d6b35e4cffb96424294d1caa89b10c5d"), looks := true }, told := true, goes := false }
def LawS5141ARefusesToldSaid : Prop := Claim7.holds Ybaf.pinned (.plain (OpenSpec.ofChange lawS5141ARefusesSpec)) lawS5141ARefusesCard
/-- ITS FALSE NEIGHBOUR. Refute it at one input. -/
def LawS5141ARefusesToldWrongFalsely : Prop := Claim7.holds Ybaf.pinned (.plain (OpenSpec.ofChange lawS5141ARefusesWrong)) lawS5141ARefusesCard

/-- THE TOLD CARD OF 'server.LawS5141ANilMembers'. -/
def lawS5141ANilMembersCard : Claim7 := { stood := { row := lawS5141ANilMembersRow, standIns := [], harness := (true, "8ee2b7b4f4b97a002c5bfa4aa5db5313d6b35e4cffb96424294d1caa89b10c5d"), looks := true }, told := true, goes := false }
def LawS5141ANilMembersToldSaid : Prop := Claim7.holds Ybaf.pinned (.plain (OpenSpec.ofChange lawS5141ANilMembersSpec)) lawS5141ANilMembersCard
/-- ITS FALSE NEIGHBOUR. Refute it at one input. -/
def LawS5141ANilMembersToldWrongFalsely : Prop := Claim7.holds Ybaf.pinned (.plain (OpenSpec.ofChange lawS5141ANilMembersWrong)) lawS5141ANilMembersCard

/-- THE TOLD CARD OF 'authz.LawS5141BExact'. -/
def lawS5141BExactCard : Claim7 := { stood := { row := lawS5141BExactRow, standIns := [], harness := (true, "8ee2b7b4f4b97a002c5bfa4aa5db5313d6b35e4cffb96424294d1caa89b10c5d"), looks := true }, told := true, goes := false }
def LawS5141BExactToldSaid : Prop := Claim7.holds Ybaf.pinned (.plain (OpenSpec.ofChange lawS5141BExactSpec)) lawS5141BExactCard
/-- ITS FALSE NEIGHBOUR. Refute it at one input. -/
def LawS5141BExactToldWrongFalsely : Prop := Claim7.holds Ybaf.pinned (.plain (OpenSpec.ofChange lawS5141BExactWrong)) lawS5141BExactCard

/-- THE TOLD CARD OF 'authz.LawS5141BChain'. -/
def lawS5141BChainCard : Claim7 := { stood := { row := lawS5141BChainRow, standIns := [], harness := (true, "8ee2b7b4f4b97a002c5bfa4aa5db5313d6b35e4cffb96424294d1caa89b10c5d"), looks := true }, told := true, goes := false }
def LawS5141BChainToldSaid : Prop := Claim7.holds Ybaf.pinned (.plain (OpenSpec.ofChange lawS5141BChainSpec)) lawS5141BChainCard
/-- ITS FALSE NEIGHBOUR. Refute it at one input. -/
def LawS5141BChainToldWrongFalsely : Prop := Claim7.holds Ybaf.pinned (.plain (OpenSpec.ofChange lawS5141BChainWrong)) lawS5141BChainCard
end Rows
end Go.Proofs.YbulkdblgFmt
