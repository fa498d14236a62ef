/-
  No cell of these rows narrows 'for every input' (looked for: loops, veiled, ifaces, maps, wideKeys, modest, calm, conditions, laid).
  DERIVED. THE GIVEN ROWS OF THIS SEAT. 2 by the template 'for every input the law returns true; each argument reads behind the call as it read before'; 0 by the template 'total and deterministic' (their statements: YbulkcwbuTotals.lean).
  GIVEN WITH THE SEED: the statements are not yours to turn. If you find one false, say at which input.
  Laid BY PROGRAM, IN A SANDBOX (cutbox-rows.mjs): the forced cells as the released guide's own fill.sh prints them over the translation b9a017eafbdfa86e… (all of the seat's roots in one cut). By AI agents, Wed Nov 11 2026. No macro, syntax, notation, axiom, sorry.
-/
import Derived.Test.YbulkcwbuChecked
import GoSem.Claim
import GoSem.ClaimJoined
import GoSem.ClaimMapViews
import Derived.JoinedTies
import Derived.KernelRfl
namespace Go.Proofs.Ybulkcwbu
/- THE CELL 'sum', in the pinned program and in every row, IS THE sha256 OF THE DUMP (.gsa) THAT YbulkcwbuProg.lean LOADS. Nothing in Lean hashes anything: it is a label: what it is worth is what the hold of that sum in a sandbox is worth. -/
noncomputable def Yba.pinned : Pinned := { name := "ybulkcwbu", sum := "b9a017eafbdfa86e11e539b61026ee5f37a03feb63464f1e8629c91eab006f63", checked := Yba.checked }
namespace Rows
def none {H : Type} : Left H := { results := [], args := [] }

/-- 'recordlog.LawS4882APopLast': WHATEVER THE INPUT: true; the input reads as it did. -/
def lawS4882APopLastSpec : ChangeSpec := { name := "lawS4882APopLast", fn := fun _ => fun
  | [d1, d2] => { results := [.lit (.bool true)], args := [d1, d2] }
  | _ => none }
def lawS4882APopLastRow : OpenClaim := { program := "ybulkcwbu", sum := "b9a017eafbdfa86e11e539b61026ee5f37a03feb63464f1e8629c91eab006f63", func := "example.com/continuance/continuance/internal/recordlog.LawS4882APopLast", spec := "lawS4882APopLast", apart := false }
def LawS4882APopLastSaid : Prop := lawS4882APopLastRow.holds Yba.pinned (OpenSpec.ofChange lawS4882APopLastSpec)

/-- ITS FALSE NEIGHBOUR: 'it returns false'. Refute it at one input. -/
def lawS4882APopLastWrong : ChangeSpec := { name := "lawS4882APopLast", fn := fun _ => fun
  | [d1, d2] => { results := [.lit (.bool false)], args := [d1, d2] }
  | _ => none }
def LawS4882APopLastWrongFalsely : Prop := lawS4882APopLastRow.holds Yba.pinned (OpenSpec.ofChange lawS4882APopLastWrong)

/-- 'recordlog.LawS4882AHeapDrain': WHATEVER THE INPUT: true; the input reads as it did. -/
def lawS4882AHeapDrainSpec : ChangeSpec := { name := "lawS4882AHeapDrain", fn := fun _ => fun
  | [d1, d2] => { results := [.lit (.bool true)], args := [d1, d2] }
  | _ => none }
def lawS4882AHeapDrainRow : OpenClaim := { program := "ybulkcwbu", sum := "b9a017eafbdfa86e11e539b61026ee5f37a03feb63464f1e8629c91eab006f63", func := "example.com/continuance/continuance/internal/recordlog.LawS4882AHeapDrain", spec := "lawS4882AHeapDrain", inPlace := ["internal/bytealg.abigen_runtime_cmpstring"], unfollowed := true, recurses := true, apart := false }
def LawS4882AHeapDrainSaid : Prop := lawS4882AHeapDrainRow.holds Yba.pinned (OpenSpec.ofChange lawS4882AHeapDrainSpec)

/-- ITS FALSE NEIGHBOUR: 'it returns false'. Refute it at one input. -/
def lawS4882AHeapDrainWrong : ChangeSpec := { name := "lawS4882AHeapDrain", fn := fun _ => fun
  | [d1, d2] => { results := [.lit (.bool false)], args := [d1, d2] }
  | _ => none }
def LawS4882AHeapDrainWrongFalsely : Prop := lawS4882AHeapDrainRow.holds Yba.pinned (OpenSpec.ofChange lawS4882AHeapDrainWrong)

end Rows
end Go.Proofs.Ybulkcwbu
