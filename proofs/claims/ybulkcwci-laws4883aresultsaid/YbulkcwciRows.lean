/-
  No cell of these rows narrows 'for every input' (looked for: loops, veiled, ifaces, maps, wideKeys, modest, calm, conditions, laid).
  DERIVED. THE GIVEN ROWS OF THIS SEAT. 1 by the template 'for every input the law returns true; each argument reads behind the call as it read before'; 0 by the template 'total and deterministic' (their statements: YbulkcwciTotals.lean).
  GIVEN WITH THE SEED: the statements are not yours to turn. If you find one false, say at which input.
  Laid BY PROGRAM, IN A SANDBOX (cutbox-rows.mjs): the forced cells as the released guide's own fill.sh prints them over the translation d1fd8f557e5056f4… (all of the seat's roots in one cut). By AI agents, Wed Nov 11 2026. No macro, syntax, notation, axiom, sorry.
-/
import Derived.Test.YbulkcwciChecked
import GoSem.Claim
import GoSem.ClaimJoined
import GoSem.ClaimMapViews
import Derived.JoinedTies
import Derived.KernelRfl
namespace Go.Proofs.Ybulkcwci
/- THE CELL 'sum', in the pinned program and in every row, IS THE sha256 OF THE DUMP (.gsa) THAT YbulkcwciProg.lean LOADS. Nothing in Lean hashes anything: it is a label: what it is worth is what the hold of that sum in a sandbox is worth. -/
noncomputable def Yba.pinned : Pinned := { name := "ybulkcwci", sum := "d1fd8f557e5056f40e89b461f121b24454e5d492441e21dd99fae53ff5dad5f8", checked := Yba.checked }
namespace Rows
def none {H : Type} : Left H := { results := [], args := [] }

/-- 'model.LawS4883AResult': WHATEVER THE INPUT: true; the input reads as it did. -/
def lawS4883AResultSpec : ChangeSpec := { name := "lawS4883AResult", fn := fun _ => fun
  | [d1, d2, d3, d4] => { results := [.lit (.bool true)], args := [d1, d2, d3, d4] }
  | _ => none }
def lawS4883AResultRow : OpenClaim := { program := "ybulkcwci", sum := "d1fd8f557e5056f40e89b461f121b24454e5d492441e21dd99fae53ff5dad5f8", func := "example.com/faultwright/faultwright/internal/model.LawS4883AResult", spec := "lawS4883AResult", apart := false }
def LawS4883AResultSaid : Prop := lawS4883AResultRow.holds Yba.pinned (OpenSpec.ofChange lawS4883AResultSpec)

/-- ITS FALSE NEIGHBOUR: 'it returns false'. Refute it at one input. -/
def lawS4883AResultWrong : ChangeSpec := { name := "lawS4883AResult", fn := fun _ => fun
  | [d1, d2, d3, d4] => { results := [.lit (.bool false)], args := [d1, d2, d3, d4] }
  | _ => none }
def LawS4883AResultWrongFalsely : Prop := lawS4883AResultRow.holds Yba.pinned (OpenSpec.ofChange lawS4883AResultWrong)

end Rows
end Go.Proofs.Ybulkcwci
