/-
  DERIVED. GIVEN WITH THE SEED: THE CARDS: each row of YbulkcwciFmtRows.lean that lists a variable, with what it lists TIED to the program's text (the seventh form; the later family's looks); each row that meets fmt, with fmt's text TOLD by the authors' own Lean function (tested against real Go, not proved from fmt's source: count such statements apart). THE CARD IS WHAT COUNTS. Prove the row's statement (the work); the ties are given (YbulkcwciFmtTie.lean); close each card by the builder's one call (the guide's Derived/Test/ToyasCard.lean, 'card_holds'). Laid BY PROGRAM, IN A SANDBOX (cutbox-door.mjs). By AI agents, Wed Nov 11 2026. No macro, syntax, notation, axiom, sorry.
-/
import Derived.Test.YbulkcwciFmtRows
import GoSem.ClaimSeven
namespace Go.Proofs.YbulkcwciFmt
namespace Rows

/-- THE TOLD CARD OF 'model.LawS4883BRun'. -/
def lawS4883BRunCard : Claim7 := { stood := { row := lawS4883BRunRow, standIns := [], harness := (true, "9a1deb66ba4318eb23c92844781974e776fe7ba4d8e6cc12e850988539f90b58"), looks := true }, told := true, goes := false }
def LawS4883BRunToldSaid : Prop := Claim7.holds Ybaf.pinned (.plain (OpenSpec.ofChange lawS4883BRunSpec)) lawS4883BRunCard
/-- ITS FALSE NEIGHBOUR. Refute it at one input. -/
def LawS4883BRunToldWrongFalsely : Prop := Claim7.holds Ybaf.pinned (.plain (OpenSpec.ofChange lawS4883BRunWrong)) lawS4883BRunCard

/-- THE TOLD CARD OF 'model.LawS4883CExact'. -/
def lawS4883CExactCard : Claim7 := { stood := { row := lawS4883CExactRow, standIns := [], harness := (true, "9a1deb66ba4318eb23c92844781974e776fe7ba4d8e6cc12e850988539f90b58"), looks := true }, told := true, goes := false }
def LawS4883CExactToldSaid : Prop := Claim7.holds Ybaf.pinned (.plain (OpenSpec.ofChange lawS4883CExactSpec)) lawS4883CExactCard
/-- ITS FALSE NEIGHBOUR. Refute it at one input. -/
def LawS4883CExactToldWrongFalsely : Prop := Claim7.holds Ybaf.pinned (.plain (OpenSpec.ofChange lawS4883CExactWrong)) lawS4883CExactCard

/-- THE TOLD CARD OF 'model.LawS4883CEdges'. -/
def lawS4883CEdgesCard : Claim7 := { stood := { row := lawS4883CEdgesRow, standIns := [], harness := (true, "9a1deb66ba4318eb23c92844781974e776fe7ba4d8e6cc12e850988539f90b58"), looks := true }, told := true, goes := false }
def LawS4883CEdgesToldSaid : Prop := Claim7.holds Ybaf.pinned (.plain (OpenSpec.ofChange lawS4883CEdgesSpec)) lawS4883CEdgesCard
/-- ITS FALSE NEIGHBOUR. Refute it at one input. -/
def LawS4883CEdgesToldWrongFalsely : Prop := Claim7.holds Ybaf.pinned (.plain (OpenSpec.ofChange lawS4883CEdgesWrong)) lawS4883CEdgesCard
end Rows
end Go.Proofs.YbulkcwciFmt
