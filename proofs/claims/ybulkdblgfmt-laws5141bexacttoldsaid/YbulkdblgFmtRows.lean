/-
  No cell of these rows narrows 'for every input' (looked for: loops, veiled, ifaces, maps, wideKeys, modest, calm, conditions, laid).
  DERIVED. THE GIVEN ROWS OF THIS SEAT. 4 by the template 'for every input the law returns true; each argument reads behind the call as it read before'; 0 by the template 'total and deterministic' (their statements: YbulkdblgFmtTotals.lean).
  GIVEN WITH THE SEED: the statements are not yours to turn. If you find one false, say at which input.
  Laid BY PROGRAM, IN A SANDBOX (cutbox-rows.mjs): the forced cells as the released guide's own fill.sh prints them over the translation 18fe9b9aaf4794cc… (all of the seat's roots in one cut). By AI agents, Wed Nov 11 2026. No macro, syntax, notation, axiom, sorry.
-/
import Derived.Test.YbulkdblgFmtChecked
import GoSem.Claim
import GoSem.ClaimJoined
import GoSem.ClaimMapViews
import Derived.JoinedTies
import Derived.KernelRfl
namespace Go.Proofs.YbulkdblgFmt
/- THE CELL 'sum', in the pinned program and in every row, IS THE sha256 OF THE DUMP (.gsa) THAT YbulkdblgFmtProg.lean LOADS. Nothing in Lean hashes anything: it is a label: what it is worth is what the hold of that sum in a sandbox is worth. -/
noncomputable def Ybaf.pinned : Pinned := { name := "ybulkdblgfmt", sum := "18fe9b9aaf4794cc4c5e3b04c9fe70ac6d5c40aea48757633dbd01c94a596263", checked := Ybaf.checked }
namespace Rows
def none {H : Type} : Left H := { results := [], args := [] }

/-- 'server.LawS5141ARefuses': WHATEVER THE INPUT: true; the input reads as it did. -/
def lawS5141ARefusesSpec : ChangeSpec := { name := "lawS5141ARefuses", fn := fun _ => fun
  | [d1, d2, d3, d4] => { results := [.lit (.bool true)], args := [d1, d2, d3, d4] }
  | _ => none }
def lawS5141ARefusesRow : OpenClaim := { program := "ybulkdblgfmt", sum := "18fe9b9aaf4794cc4c5e3b04c9fe70ac6d5c40aea48757633dbd01c94a596263", func := "example.com/grantline/grantline/internal/server.LawS5141ARefuses", spec := "lawS5141ARefuses", stops := ["fmt.Sprintf, its operands' methods called", "fmt.errorf"], inPlace := ["fmt.Sprintf"], unfollowed := true, recurses := true, plainKeys := false, apart := false }
/-- NO THEOREM (fmt's text is open here; it may be false): for the released tool's asking of the row's closed facts alone. THE STATEMENT IS 'LawS5141ARefusesToldSaid' (YbulkdblgFmtCards.lean). -/
def LawS5141ARefusesFormAsk : Prop := lawS5141ARefusesRow.holds Ybaf.pinned (OpenSpec.ofChange lawS5141ARefusesSpec)

/-- ITS FALSE NEIGHBOUR: 'it returns false'. Refute it at one input. -/
def lawS5141ARefusesWrong : ChangeSpec := { name := "lawS5141ARefuses", fn := fun _ => fun
  | [d1, d2, d3, d4] => { results := [.lit (.bool false)], args := [d1, d2, d3, d4] }
  | _ => none }
def LawS5141ARefusesWrongFormAsk : Prop := lawS5141ARefusesRow.holds Ybaf.pinned (OpenSpec.ofChange lawS5141ARefusesWrong)

/-- 'server.LawS5141ANilMembers': WHATEVER THE INPUT: true; the input reads as it did. -/
def lawS5141ANilMembersSpec : ChangeSpec := { name := "lawS5141ANilMembers", fn := fun _ => fun
  | [d1, d2] => { results := [.lit (.bool true)], args := [d1, d2] }
  | _ => none }
def lawS5141ANilMembersRow : OpenClaim := { program := "ybulkdblgfmt", sum := "18fe9b9aaf4794cc4c5e3b04c9fe70ac6d5c40aea48757633dbd01c94a596263", func := "example.com/grantline/grantline/internal/server.LawS5141ANilMembers", spec := "lawS5141ANilMembers", stops := ["fmt.Sprintf, its operands' methods called", "fmt.errorf"], inPlace := ["fmt.Sprintf"], unfollowed := true, recurses := true, plainKeys := false, apart := false }
/-- NO THEOREM (fmt's text is open here; it may be false): for the released tool's asking of the row's closed facts alone. THE STATEMENT IS 'LawS5141ANilMembersToldSaid' (YbulkdblgFmtCards.lean). -/
def LawS5141ANilMembersFormAsk : Prop := lawS5141ANilMembersRow.holds Ybaf.pinned (OpenSpec.ofChange lawS5141ANilMembersSpec)

/-- ITS FALSE NEIGHBOUR: 'it returns false'. Refute it at one input. -/
def lawS5141ANilMembersWrong : ChangeSpec := { name := "lawS5141ANilMembers", fn := fun _ => fun
  | [d1, d2] => { results := [.lit (.bool false)], args := [d1, d2] }
  | _ => none }
def LawS5141ANilMembersWrongFormAsk : Prop := lawS5141ANilMembersRow.holds Ybaf.pinned (OpenSpec.ofChange lawS5141ANilMembersWrong)

/-- 'authz.LawS5141BExact': WHATEVER THE INPUT: true; the input reads as it did. -/
def lawS5141BExactSpec : ChangeSpec := { name := "lawS5141BExact", fn := fun _ => fun
  | [d1, d2, d3] => { results := [.lit (.bool true)], args := [d1, d2, d3] }
  | _ => none }
def lawS5141BExactRow : OpenClaim := { program := "ybulkdblgfmt", sum := "18fe9b9aaf4794cc4c5e3b04c9fe70ac6d5c40aea48757633dbd01c94a596263", func := "example.com/grantline/grantline/internal/authz.LawS5141BExact", spec := "lawS5141BExact", stops := ["fmt.Sprintf, its operands' methods called", "fmt.errorf"], inPlace := ["fmt.Sprintf", "internal/abi.NoEscape", "internal/bytealg.MakeNoZero", "fmt.errorf"], unfollowed := true, recurses := true, plainKeys := false, apart := false }
/-- NO THEOREM (fmt's text is open here; it may be false): for the released tool's asking of the row's closed facts alone. THE STATEMENT IS 'LawS5141BExactToldSaid' (YbulkdblgFmtCards.lean). -/
def LawS5141BExactFormAsk : Prop := lawS5141BExactRow.holds Ybaf.pinned (OpenSpec.ofChange lawS5141BExactSpec)

/-- ITS FALSE NEIGHBOUR: 'it returns false'. Refute it at one input. -/
def lawS5141BExactWrong : ChangeSpec := { name := "lawS5141BExact", fn := fun _ => fun
  | [d1, d2, d3] => { results := [.lit (.bool false)], args := [d1, d2, d3] }
  | _ => none }
def LawS5141BExactWrongFormAsk : Prop := lawS5141BExactRow.holds Ybaf.pinned (OpenSpec.ofChange lawS5141BExactWrong)

/-- 'authz.LawS5141BChain': WHATEVER THE INPUT: true; the input reads as it did. -/
def lawS5141BChainSpec : ChangeSpec := { name := "lawS5141BChain", fn := fun _ => fun
  | [d1, d2, d3] => { results := [.lit (.bool true)], args := [d1, d2, d3] }
  | _ => none }
def lawS5141BChainRow : OpenClaim := { program := "ybulkdblgfmt", sum := "18fe9b9aaf4794cc4c5e3b04c9fe70ac6d5c40aea48757633dbd01c94a596263", func := "example.com/grantline/grantline/internal/authz.LawS5141BChain", spec := "lawS5141BChain", stops := ["fmt.Sprintf, its operands' methods called", "fmt.errorf"], inPlace := ["fmt.Sprintf", "internal/abi.NoEscape", "internal/bytealg.MakeNoZero", "fmt.errorf"], unfollowed := true, recurses := true, plainKeys := false, apart := false }
/-- NO THEOREM (fmt's text is open here; it may be false): for the released tool's asking of the row's closed facts alone. THE STATEMENT IS 'LawS5141BChainToldSaid' (YbulkdblgFmtCards.lean). -/
def LawS5141BChainFormAsk : Prop := lawS5141BChainRow.holds Ybaf.pinned (OpenSpec.ofChange lawS5141BChainSpec)

/-- ITS FALSE NEIGHBOUR: 'it returns false'. Refute it at one input. -/
def lawS5141BChainWrong : ChangeSpec := { name := "lawS5141BChain", fn := fun _ => fun
  | [d1, d2, d3] => { results := [.lit (.bool false)], args := [d1, d2, d3] }
  | _ => none }
def LawS5141BChainWrongFormAsk : Prop := lawS5141BChainRow.holds Ybaf.pinned (OpenSpec.ofChange lawS5141BChainWrong)

end Rows
end Go.Proofs.YbulkdblgFmt
