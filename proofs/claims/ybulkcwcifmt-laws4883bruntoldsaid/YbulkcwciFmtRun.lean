import Derived.Test.YbulkcwciFmtCond1
namespace Go.Proofs.YbulkcwciFmt
open Go.RowKit Go.Deep

/-! ### The step, in plain words -/
def csAt (cs : List Bool) (i : Nat) : Bool := cs.getD i false
def rEnds (E : Eds) (cs : List Bool) : Nat → Nat
  | 0 => 0
  | i + 1 => if csAt cs i = true then nextEnds (E.keep i) (rEnds E cs i) else rEnds E cs i
def rLog (E : Eds) (cs : List Bool) : Nat → List Int
  | 0 => []
  | i + 1 => if csAt cs i = true then rLog E cs i ++ takeLog (E.op i) (E.keep i) (E.tg i) else rLog E cs i
def StopsAt (E : Eds) (cs : List Bool) (fail i : Nat) : Prop := csAt cs i = true ∧ E.keep i = false ∧ rEnds E cs i = fail
theorem rEnds_le (E : Eds) (cs : List Bool) : ∀ i, rEnds E cs i ≤ i
  | 0 => Nat.le_refl _
  | i + 1 => by
    have := rEnds_le E cs i
    unfold rEnds nextEnds
    split
    · split <;> omega
    · omega
theorem takeLog_length (op : Nat) (keep : Bool) (tg : Int) : (takeLog op keep tg).length ≤ 4 := by
  unfold takeLog nextLog
  split <;> split <;> simp
theorem rLog_length (E : Eds) (cs : List Bool) : ∀ i, (rLog E cs i).length ≤ 4 * i
  | 0 => Nat.le_refl _
  | i + 1 => by
    have := rLog_length E cs i
    have := takeLog_length (E.op i) (E.keep i) (E.tg i)
    unfold rLog
    split
    · rw [List.length_append]; omega
    · omega
/-- What the step leaves in x.log, and its error. -/
def RunEnd (c : Cfg) (E : Eds) (cs : List Bool) (log : List Int) (err : Value) : Prop :=
  (∃ i, i < E.n ∧ (∀ j, j < i → ¬ StopsAt E cs c.fail j) ∧ StopsAt E cs c.fail i ∧ log = rLog E cs (i + 1) ∧ err = c.er) ∨
  ((∀ j, j < E.n → ¬ StopsAt E cs c.fail j) ∧ log = rLog E cs E.n ++ (if (cs.all fun b => !b) = true then [0, 0] else []) ∧ err = .nilIface)
end Go.Proofs.YbulkcwciFmt
