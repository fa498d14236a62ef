/-
  No cell of these rows narrows 'for every input' (looked for: loops, veiled, ifaces, maps, wideKeys, modest, calm, conditions, laid).
  DERIVED. THE GIVEN ROWS OF THIS SEAT. 2 by the template 'for every input the law returns true; each argument reads behind the call as it read before'; 0 by the template 'total and deterministic' (their statements: YbulkcwdkTotals.lean).
  GIVEN WITH THE SEED: the statements are not yours to turn. If you find one false, say at which input.
  Laid BY PROGRAM, IN A SANDBOX (cutbox-rows.mjs): the forced cells as the released guide's own fill.sh prints them over the translation d42a0d62523f29ce… (all of the seat's roots in one cut). By AI agents, Wed Nov 11 2026. No macro, syntax, notation, axiom, sorry.
-/
import Derived.Test.YbulkcwdkChecked
import GoSem.Claim
import GoSem.ClaimJoined
import GoSem.ClaimMapViews
import Derived.JoinedTies
import Derived.KernelRfl
namespace Go.Proofs.Ybulkcwdk
/- THE CELL 'sum', in the pinned program and in every row, IS THE sha256 OF THE DUMP (.gsa) THAT YbulkcwdkProg.lean LOADS. Nothing in Lean hashes anything: it is a label: what it is worth is what the hold of that sum in a sandbox is worth. -/
noncomputable def Yba.pinned : Pinned := { name := "ybulkcwdk", sum := "d42a0d62523f29ce96c6b807d805920c8f027b31e1c3c5b0241fc348f464ce6c", checked := Yba.checked }
namespace Rows
def none {H : Type} : Left H := { results := [], args := [] }

/-- 'runner.LawS4885BLookup': WHATEVER THE INPUT: true; the input reads as it did. -/
def lawS4885BLookupSpec : ChangeSpec := { name := "lawS4885BLookup", fn := fun _ => fun
  | [d1, d2, d3] => { results := [.lit (.bool true)], args := [d1, d2, d3] }
  | _ => none }
def lawS4885BLookupRow : OpenClaim := { program := "ybulkcwdk", sum := "d42a0d62523f29ce96c6b807d805920c8f027b31e1c3c5b0241fc348f464ce6c", func := "example.com/premise/premise/runner.LawS4885BLookup", spec := "lawS4885BLookup", inPlace := ["(*internal/sync.Mutex).Lock", "internal/race.Disable", "sync/atomic.CompareAndSwapInt32", "internal/race.Enable", "internal/race.Acquire", "(*internal/sync.Mutex).lockSlow", "internal/sync.runtime_canSpin", "internal/sync.runtime_doSpin", "internal/sync.throw", "internal/sync.runtime_nanotime", "internal/sync.runtime_SemacquireMutex", "sync/atomic.AddInt32", "(*internal/sync.Mutex).Unlock", "internal/race.ReleaseMerge", "(*internal/sync.Mutex).unlockSlow", "internal/sync.fatal", "internal/sync.runtime_Semrelease", "(*internal/sync.Mutex).TryLock"], apart := false }
def LawS4885BLookupSaid : Prop := lawS4885BLookupRow.holds Yba.pinned (OpenSpec.ofChange lawS4885BLookupSpec)

/-- ITS FALSE NEIGHBOUR: 'it returns false'. Refute it at one input. -/
def lawS4885BLookupWrong : ChangeSpec := { name := "lawS4885BLookup", fn := fun _ => fun
  | [d1, d2, d3] => { results := [.lit (.bool false)], args := [d1, d2, d3] }
  | _ => none }
def LawS4885BLookupWrongFalsely : Prop := lawS4885BLookupRow.holds Yba.pinned (OpenSpec.ofChange lawS4885BLookupWrong)

/-- 'runner.LawS4885BNilMap': WHATEVER THE INPUT: true; the input reads as it did. -/
def lawS4885BNilMapSpec : ChangeSpec := { name := "lawS4885BNilMap", fn := fun _ => fun
  | [d] => { results := [.lit (.bool true)], args := [d] }
  | _ => none }
def lawS4885BNilMapRow : OpenClaim := { program := "ybulkcwdk", sum := "d42a0d62523f29ce96c6b807d805920c8f027b31e1c3c5b0241fc348f464ce6c", func := "example.com/premise/premise/runner.LawS4885BNilMap", spec := "lawS4885BNilMap", inPlace := ["(*internal/sync.Mutex).Lock", "internal/race.Disable", "sync/atomic.CompareAndSwapInt32", "internal/race.Enable", "internal/race.Acquire", "(*internal/sync.Mutex).lockSlow", "internal/sync.runtime_canSpin", "internal/sync.runtime_doSpin", "internal/sync.throw", "internal/sync.runtime_nanotime", "internal/sync.runtime_SemacquireMutex", "sync/atomic.AddInt32", "(*internal/sync.Mutex).Unlock", "internal/race.ReleaseMerge", "(*internal/sync.Mutex).unlockSlow", "internal/sync.fatal", "internal/sync.runtime_Semrelease", "(*internal/sync.Mutex).TryLock"], apart := false }
def LawS4885BNilMapSaid : Prop := lawS4885BNilMapRow.holds Yba.pinned (OpenSpec.ofChange lawS4885BNilMapSpec)

/-- ITS FALSE NEIGHBOUR: 'it returns false'. Refute it at one input. -/
def lawS4885BNilMapWrong : ChangeSpec := { name := "lawS4885BNilMap", fn := fun _ => fun
  | [d] => { results := [.lit (.bool false)], args := [d] }
  | _ => none }
def LawS4885BNilMapWrongFalsely : Prop := lawS4885BNilMapRow.holds Yba.pinned (OpenSpec.ofChange lawS4885BNilMapWrong)

end Rows
end Go.Proofs.Ybulkcwdk
