/-
  No cell of these rows narrows 'for every input' (looked for: loops, veiled, ifaces, maps, wideKeys, modest, calm, conditions, laid).
  DERIVED. THE GIVEN ROWS OF THIS SEAT. 3 by the template 'for every input the law returns true; each argument reads behind the call as it read before'; 0 by the template 'total and deterministic' (their statements: YbulkcwciFmtTotals.lean).
  GIVEN WITH THE SEED: the statements are not yours to turn. If you find one false, say at which input.
  Laid BY PROGRAM, IN A SANDBOX (cutbox-rows.mjs): the forced cells as the released guide's own fill.sh prints them over the translation 22dd8e02d56d4bed… (all of the seat's roots in one cut). By AI agents, Wed Nov 11 2026. No macro, syntax, notation, axiom, sorry.
-/
import Derived.Test.YbulkcwciFmtChecked
import GoSem.Claim
import GoSem.ClaimJoined
import GoSem.ClaimMapViews
import Derived.JoinedTies
import Derived.KernelRfl
namespace Go.Proofs.YbulkcwciFmt
/- THE CELL 'sum', in the pinned program and in every row, IS THE sha256 OF THE DUMP (.gsa) THAT YbulkcwciFmtProg.lean LOADS. Nothing in Lean hashes anything: it is a label: what it is worth is what the hold of that sum in a sandbox is worth. -/
noncomputable def Ybaf.pinned : Pinned := { name := "ybulkcwcifmt", sum := "22dd8e02d56d4bed84a695330eeda908b2cf407238b2ebedf37b98dd7ab344b0", checked := Ybaf.checked }
namespace Rows
def none {H : Type} : Left H := { results := [], args := [] }

/-- 'model.LawS4883BRun': WHATEVER THE INPUT: true; the input reads as it did. -/
def lawS4883BRunSpec : ChangeSpec := { name := "lawS4883BRun", fn := fun _ => fun
  | [d1, d2, d3, d4] => { results := [.lit (.bool true)], args := [d1, d2, d3, d4] }
  | _ => none }
def lawS4883BRunRow : OpenClaim := { program := "ybulkcwcifmt", sum := "22dd8e02d56d4bed84a695330eeda908b2cf407238b2ebedf37b98dd7ab344b0", func := "example.com/faultwright/faultwright/internal/model.LawS4883BRun", spec := "lawS4883BRun", stops := ["fmt.errorf, its operands' methods called", "fmt.Sprintf"], inPlace := ["fmt.errorf", "internal/reflectlite.TypeOf"], unfollowed := true, recurses := true, apart := false }
/-- NO THEOREM (fmt's text is open here; it may be false): for the released tool's asking of the row's closed facts alone. THE STATEMENT IS 'LawS4883BRunToldSaid' (YbulkcwciFmtCards.lean). -/
def LawS4883BRunFormAsk : Prop := lawS4883BRunRow.holds Ybaf.pinned (OpenSpec.ofChange lawS4883BRunSpec)

/-- ITS FALSE NEIGHBOUR: 'it returns false'. Refute it at one input. -/
def lawS4883BRunWrong : ChangeSpec := { name := "lawS4883BRun", fn := fun _ => fun
  | [d1, d2, d3, d4] => { results := [.lit (.bool false)], args := [d1, d2, d3, d4] }
  | _ => none }
def LawS4883BRunWrongFormAsk : Prop := lawS4883BRunRow.holds Ybaf.pinned (OpenSpec.ofChange lawS4883BRunWrong)

/-- 'model.LawS4883CExact': WHATEVER THE INPUT: true; the input reads as it did. -/
def lawS4883CExactSpec : ChangeSpec := { name := "lawS4883CExact", fn := fun _ => fun
  | [d] => { results := [.lit (.bool true)], args := [d] }
  | _ => none }
def lawS4883CExactRow : OpenClaim := { program := "ybulkcwcifmt", sum := "22dd8e02d56d4bed84a695330eeda908b2cf407238b2ebedf37b98dd7ab344b0", func := "example.com/faultwright/faultwright/internal/model.LawS4883CExact", spec := "lawS4883CExact", stops := ["fmt.errorf, its operands' methods called", "fmt.Sprintf"], inPlace := ["fmt.errorf"], unfollowed := true, recurses := true, apart := false }
/-- NO THEOREM (fmt's text is open here; it may be false): for the released tool's asking of the row's closed facts alone. THE STATEMENT IS 'LawS4883CExactToldSaid' (YbulkcwciFmtCards.lean). -/
def LawS4883CExactFormAsk : Prop := lawS4883CExactRow.holds Ybaf.pinned (OpenSpec.ofChange lawS4883CExactSpec)

/-- ITS FALSE NEIGHBOUR: 'it returns false'. Refute it at one input. -/
def lawS4883CExactWrong : ChangeSpec := { name := "lawS4883CExact", fn := fun _ => fun
  | [d] => { results := [.lit (.bool false)], args := [d] }
  | _ => none }
def LawS4883CExactWrongFormAsk : Prop := lawS4883CExactRow.holds Ybaf.pinned (OpenSpec.ofChange lawS4883CExactWrong)

/-- 'model.LawS4883CEdges': WHATEVER THE INPUT: true; the input reads as it did. -/
def lawS4883CEdgesSpec : ChangeSpec := { name := "lawS4883CEdges", fn := fun _ => fun
  | [d] => { results := [.lit (.bool true)], args := [d] }
  | _ => none }
def lawS4883CEdgesRow : OpenClaim := { program := "ybulkcwcifmt", sum := "22dd8e02d56d4bed84a695330eeda908b2cf407238b2ebedf37b98dd7ab344b0", func := "example.com/faultwright/faultwright/internal/model.LawS4883CEdges", spec := "lawS4883CEdges", stops := ["fmt.errorf, its operands' methods called", "fmt.Sprintf"], inPlace := ["fmt.errorf"], unfollowed := true, recurses := true, apart := false }
/-- NO THEOREM (fmt's text is open here; it may be false): for the released tool's asking of the row's closed facts alone. THE STATEMENT IS 'LawS4883CEdgesToldSaid' (YbulkcwciFmtCards.lean). -/
def LawS4883CEdgesFormAsk : Prop := lawS4883CEdgesRow.holds Ybaf.pinned (OpenSpec.ofChange lawS4883CEdgesSpec)

/-- ITS FALSE NEIGHBOUR: 'it returns false'. Refute it at one input. -/
def lawS4883CEdgesWrong : ChangeSpec := { name := "lawS4883CEdges", fn := fun _ => fun
  | [d] => { results := [.lit (.bool false)], args := [d] }
  | _ => none }
def LawS4883CEdgesWrongFormAsk : Prop := lawS4883CEdgesRow.holds Ybaf.pinned (OpenSpec.ofChange lawS4883CEdgesWrong)

end Rows
end Go.Proofs.YbulkcwciFmt
