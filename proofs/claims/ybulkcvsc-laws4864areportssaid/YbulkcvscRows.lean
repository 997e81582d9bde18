/-
  No cell of these rows narrows 'for every input' (looked for: loops, veiled, ifaces, maps, wideKeys, modest, calm, conditions, laid).
  DERIVED. THE GIVEN ROWS OF THIS SEAT. 2 by the template 'for every input the law returns true; each argument reads behind the call as it read before'; 0 by the template 'total and deterministic' (their statements: YbulkcvscTotals.lean).
  GIVEN WITH THE SEED: the statements are not yours to turn. If you find one false, say at which input.
  Laid BY PROGRAM, IN A SANDBOX (cutbox-rows.mjs): the forced cells as the released guide's own fill.sh prints them over the translation d0e375b1cd906ac5… (all of the seat's roots in one cut). By AI agents, Wed Nov 11 2026. No macro, syntax, notation, axiom, sorry.
-/
import Derived.Test.YbulkcvscChecked
import GoSem.Claim
import GoSem.ClaimJoined
import GoSem.ClaimMapViews
import Derived.JoinedTies
import Derived.KernelRfl
namespace Go.Proofs.Ybulkcvsc
/- THE CELL 'sum', in the pinned program and in every row, IS THE sha256 OF THE DUMP (.gsa) THAT YbulkcvscProg.lean LOADS. Nothing in Lean hashes anything: it is a label: what it is worth is what the hold of that sum in a sandbox is worth. -/
noncomputable def Yba.pinned : Pinned := { name := "ybulkcvsc", sum := "d0e375b1cd906ac520983e929f888b6c0505b60bf3ff4ee64f94a3dea81cd617", checked := Yba.checked }
namespace Rows
def none {H : Type} : Left H := { results := [], args := [] }

/-- 'rules.LawS4864AReports': WHATEVER THE INPUT: true; the input reads as it did. -/
def lawS4864AReportsSpec : ChangeSpec := { name := "lawS4864AReports", fn := fun _ => fun
  | [d1, d2] => { results := [.lit (.bool true)], args := [d1, d2] }
  | _ => none }
def lawS4864AReportsRow : OpenClaim := { program := "ybulkcvsc", sum := "d0e375b1cd906ac520983e929f888b6c0505b60bf3ff4ee64f94a3dea81cd617", func := "example.com/tidewatch/tidewatch/rules.LawS4864AReports", spec := "lawS4864AReports", inPlace := ["(*internal/sync.Mutex).Lock", "internal/race.Disable", "sync/atomic.CompareAndSwapInt32", "internal/race.Enable", "internal/race.Acquire", "(*internal/sync.Mutex).lockSlow", "internal/sync.runtime_canSpin", "internal/sync.runtime_doSpin", "internal/sync.throw", "internal/sync.runtime_nanotime", "internal/sync.runtime_SemacquireMutex", "sync/atomic.AddInt32", "(*internal/sync.Mutex).Unlock", "internal/race.ReleaseMerge", "(*internal/sync.Mutex).unlockSlow", "internal/sync.fatal", "internal/sync.runtime_Semrelease", "(*internal/sync.Mutex).TryLock"], apart := false }
def LawS4864AReportsSaid : Prop := lawS4864AReportsRow.holds Yba.pinned (OpenSpec.ofChange lawS4864AReportsSpec)

/-- ITS FALSE NEIGHBOUR: 'it returns false'. Refute it at one input. -/
def lawS4864AReportsWrong : ChangeSpec := { name := "lawS4864AReports", fn := fun _ => fun
  | [d1, d2] => { results := [.lit (.bool false)], args := [d1, d2] }
  | _ => none }
def LawS4864AReportsWrongFalsely : Prop := lawS4864AReportsRow.holds Yba.pinned (OpenSpec.ofChange lawS4864AReportsWrong)

/-- 'rules.LawS4864ANotJudged': WHATEVER THE INPUT: true; the input reads as it did. -/
def lawS4864ANotJudgedSpec : ChangeSpec := { name := "lawS4864ANotJudged", fn := fun _ => fun
  | [d] => { results := [.lit (.bool true)], args := [d] }
  | _ => none }
def lawS4864ANotJudgedRow : OpenClaim := { program := "ybulkcvsc", sum := "d0e375b1cd906ac520983e929f888b6c0505b60bf3ff4ee64f94a3dea81cd617", func := "example.com/tidewatch/tidewatch/rules.LawS4864ANotJudged", spec := "lawS4864ANotJudged", inPlace := ["(*internal/sync.Mutex).Lock", "internal/race.Disable", "sync/atomic.CompareAndSwapInt32", "internal/race.Enable", "internal/race.Acquire", "(*internal/sync.Mutex).lockSlow", "internal/sync.runtime_canSpin", "internal/sync.runtime_doSpin", "internal/sync.throw", "internal/sync.runtime_nanotime", "internal/sync.runtime_SemacquireMutex", "sync/atomic.AddInt32", "(*internal/sync.Mutex).Unlock", "internal/race.ReleaseMerge", "(*internal/sync.Mutex).unlockSlow", "internal/sync.fatal", "internal/sync.runtime_Semrelease"], apart := false }
def LawS4864ANotJudgedSaid : Prop := lawS4864ANotJudgedRow.holds Yba.pinned (OpenSpec.ofChange lawS4864ANotJudgedSpec)

/-- ITS FALSE NEIGHBOUR: 'it returns false'. Refute it at one input. -/
def lawS4864ANotJudgedWrong : ChangeSpec := { name := "lawS4864ANotJudged", fn := fun _ => fun
  | [d] => { results := [.lit (.bool false)], args := [d] }
  | _ => none }
def LawS4864ANotJudgedWrongFalsely : Prop := lawS4864ANotJudgedRow.holds Yba.pinned (OpenSpec.ofChange lawS4864ANotJudgedWrong)

end Rows
end Go.Proofs.Ybulkcvsc
