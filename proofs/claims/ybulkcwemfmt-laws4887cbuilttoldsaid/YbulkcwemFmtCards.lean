/-
  DERIVED. GIVEN WITH THE SEED: THE CARDS: each row of YbulkcwemFmtRows.lean that lists a variable, with what it lists TIED to the program's text (the seventh form; the later family's looks); each row that meets fmt, with fmt's text TOLD by the authors' own Lean function (tested against real Go, not proved from fmt's source: count such statements apart). THE CARD IS WHAT COUNTS. Prove the row's statement (the work); the ties are given (YbulkcwemFmtTie.lean); close each card by the builder's one call (the guide's Derived/Test/ToyasCard.lean, 'card_holds'). Laid BY PROGRAM, IN A SANDBOX (cutbox-door.mjs). By AI agents, Wed Nov 11 2026. No macro, syntax, notation, axiom, sorry.
-/
import Derived.Test.YbulkcwemFmtRows
import GoSem.ClaimSeven
namespace Go.Proofs.YbulkcwemFmt
namespace Rows

/-- THE TOLD AND TIED CARD OF 'replica.LawS4887BCountCased'. -/
def lawS4887BCountCasedCard : Claim7 := { stood := { row := lawS4887BCountCasedRow, standIns := [], harness := (true, "c3788219485b2e6804d81fd102e3d12a23e2b57d04b8339a672a6ca2ed0e4ade"), looks := true }, told := true, laidByText := true, laidKinds := [.data, .data, .data, .pinned, .pinned], laidTests := true, laidLooks := .later, goes := false }
def LawS4887BCountCasedToldSaid : Prop := Claim7.holds Ybaf.pinned (.plain (OpenSpec.ofChange lawS4887BCountCasedSpec)) lawS4887BCountCasedCard
/-- ITS FALSE NEIGHBOUR. Refute it at one input. -/
def LawS4887BCountCasedToldWrongFalsely : Prop := Claim7.holds Ybaf.pinned (.plain (OpenSpec.ofChange lawS4887BCountCasedWrong)) lawS4887BCountCasedCard

/-- THE TOLD AND TIED CARD OF 'replica.LawS4887BCountRaw'. -/
def lawS4887BCountRawCard : Claim7 := { stood := { row := lawS4887BCountRawRow, standIns := [], harness := (true, "c3788219485b2e6804d81fd102e3d12a23e2b57d04b8339a672a6ca2ed0e4ade"), looks := true }, told := true, laidByText := true, laidKinds := [.data, .data, .data, .pinned, .pinned], laidTests := true, laidLooks := .later, goes := false }
def LawS4887BCountRawToldSaid : Prop := Claim7.holds Ybaf.pinned (.plain (OpenSpec.ofChange lawS4887BCountRawSpec)) lawS4887BCountRawCard
/-- ITS FALSE NEIGHBOUR. Refute it at one input. -/
def LawS4887BCountRawToldWrongFalsely : Prop := Claim7.holds Ybaf.pinned (.plain (OpenSpec.ofChange lawS4887BCountRawWrong)) lawS4887BCountRawCard

/-- THE TOLD AND TIED CARD OF 'mysql.LawS4887CModel'. -/
def lawS4887CModelCard : Claim7 := { stood := { row := lawS4887CModelRow, standIns := [], harness := (true, "c3788219485b2e6804d81fd102e3d12a23e2b57d04b8339a672a6ca2ed0e4ade"), looks := true }, told := true, laidByText := true, laidKinds := [.sentinel], laidTests := true, laidLooks := .later, goes := false }
def LawS4887CModelToldSaid : Prop := Claim7.holds Ybaf.pinned (.plain (OpenSpec.ofChange lawS4887CModelSpec)) lawS4887CModelCard
/-- ITS FALSE NEIGHBOUR. Refute it at one input. -/
def LawS4887CModelToldWrongFalsely : Prop := Claim7.holds Ybaf.pinned (.plain (OpenSpec.ofChange lawS4887CModelWrong)) lawS4887CModelCard

/-- THE TOLD AND TIED CARD OF 'mysql.LawS4887CBuilt'. -/
def lawS4887CBuiltCard : Claim7 := { stood := { row := lawS4887CBuiltRow, standIns := [], harness := (true, "c3788219485b2e6804d81fd102e3d12a23e2b57d04b8339a672a6ca2ed0e4ade"), looks := true }, told := true, laidByText := true, laidKinds := [.sentinel], laidTests := true, laidLooks := .later, goes := false }
def LawS4887CBuiltToldSaid : Prop := Claim7.holds Ybaf.pinned (.plain (OpenSpec.ofChange lawS4887CBuiltSpec)) lawS4887CBuiltCard
/-- ITS FALSE NEIGHBOUR. Refute it at one input. -/
def LawS4887CBuiltToldWrongFalsely : Prop := Claim7.holds Ybaf.pinned (.plain (OpenSpec.ofChange lawS4887CBuiltWrong)) lawS4887CBuiltCard
end Rows
end Go.Proofs.YbulkcwemFmt
