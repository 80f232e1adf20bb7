/-
  No cell of these rows narrows 'for every input' (looked for: loops, veiled, ifaces, maps, wideKeys, modest, calm, conditions, laid).
  DERIVED. THE GIVEN ROWS OF THIS SEAT. 2 by the template 'for every input the law returns true; each argument reads behind the call as it read before'; 0 by the template 'total and deterministic' (their statements: YbulkcchaTotals.lean).
  GIVEN WITH THE SEED: the statements are not yours to turn. If you find one false, say at which input.
  Laid BY PROGRAM, IN A SANDBOX (cutbox-rows.mjs): the forced cells as the released guide's own fill.sh prints them over the translation e86973e062819f65… (all of the seat's roots in one cut). By AI agents, Wed Nov 11 2026. No macro, syntax, notation, axiom, sorry.
-/
import Derived.Test.YbulkcchaChecked
import GoSem.Claim
import GoSem.ClaimJoined
import GoSem.ClaimMapViews
import Derived.JoinedTies
import Derived.KernelRfl
namespace Go.Proofs.Ybulkccha
/- THE CELL 'sum', in the pinned program and in every row, IS THE sha256 OF THE DUMP (.gsa) THAT YbulkcchaProg.lean LOADS. Nothing in Lean hashes anything: it is a label: what it is worth is what the hold of that sum in a sandbox is worth. -/
noncomputable def Yba.pinned : Pinned := { name := "ybulkccha", sum := "e86973e062819f658ba205e8ae280926af5517fff9489723b2e0009cb07a09ea", checked := Yba.checked }
namespace Rows
def none {H : Type} : Left H := { results := [], args := [] }

/-- 'storage.LawS3926BTake': WHATEVER THE INPUT: true; the input reads as it did. -/
def lawS3926BTakeSpec : ChangeSpec := { name := "lawS3926BTake", fn := fun _ => fun
  | [d1, d2, d3, d4] => { results := [.lit (.bool true)], args := [d1, d2, d3, d4] }
  | _ => none }
def lawS3926BTakeRow : OpenClaim := { program := "ybulkccha", sum := "e86973e062819f658ba205e8ae280926af5517fff9489723b2e0009cb07a09ea", func := "example.com/bucketwise/bucketwise/storage.LawS3926BTake", spec := "lawS3926BTake", inPlace := ["(*internal/sync.Mutex).Lock", "internal/race.Disable", "sync/atomic.CompareAndSwapInt32", "internal/race.Enable", "internal/race.Acquire", "(*internal/sync.Mutex).lockSlow", "internal/sync.runtime_canSpin", "internal/sync.runtime_doSpin", "internal/sync.throw", "internal/sync.runtime_nanotime", "internal/sync.runtime_SemacquireMutex", "sync/atomic.AddInt32", "(*internal/sync.Mutex).Unlock", "internal/race.ReleaseMerge", "(*internal/sync.Mutex).unlockSlow", "internal/sync.fatal", "internal/sync.runtime_Semrelease"], apart := false }
def LawS3926BTakeSaid : Prop := lawS3926BTakeRow.holds Yba.pinned (OpenSpec.ofChange lawS3926BTakeSpec)

/-- ITS FALSE NEIGHBOUR: 'it returns false'. Refute it at one input. -/
def lawS3926BTakeWrong : ChangeSpec := { name := "lawS3926BTake", fn := fun _ => fun
  | [d1, d2, d3, d4] => { results := [.lit (.bool false)], args := [d1, d2, d3, d4] }
  | _ => none }
def LawS3926BTakeWrongFalsely : Prop := lawS3926BTakeRow.holds Yba.pinned (OpenSpec.ofChange lawS3926BTakeWrong)

/-- 'storage.LawS3926BBegin': WHATEVER THE INPUT: true; the input reads as it did. -/
def lawS3926BBeginSpec : ChangeSpec := { name := "lawS3926BBegin", fn := fun _ => fun
  | [d1, d2] => { results := [.lit (.bool true)], args := [d1, d2] }
  | _ => none }
def lawS3926BBeginRow : OpenClaim := { program := "ybulkccha", sum := "e86973e062819f658ba205e8ae280926af5517fff9489723b2e0009cb07a09ea", func := "example.com/bucketwise/bucketwise/storage.LawS3926BBegin", spec := "lawS3926BBegin", inPlace := ["(*internal/sync.Mutex).Lock", "internal/race.Disable", "sync/atomic.CompareAndSwapInt32", "internal/race.Enable", "internal/race.Acquire", "(*internal/sync.Mutex).lockSlow", "internal/sync.runtime_canSpin", "internal/sync.runtime_doSpin", "internal/sync.throw", "internal/sync.runtime_nanotime", "internal/sync.runtime_SemacquireMutex", "sync/atomic.AddInt32", "(*internal/sync.Mutex).Unlock", "internal/race.ReleaseMerge", "(*internal/sync.Mutex).unlockSlow", "internal/sync.fatal", "internal/sync.runtime_Semrelease"], apart := false }
def LawS3926BBeginSaid : Prop := lawS3926BBeginRow.holds Yba.pinned (OpenSpec.ofChange lawS3926BBeginSpec)

/-- ITS FALSE NEIGHBOUR: 'it returns false'. Refute it at one input. -/
def lawS3926BBeginWrong : ChangeSpec := { name := "lawS3926BBegin", fn := fun _ => fun
  | [d1, d2] => { results := [.lit (.bool false)], args := [d1, d2] }
  | _ => none }
def LawS3926BBeginWrongFalsely : Prop := lawS3926BBeginRow.holds Yba.pinned (OpenSpec.ofChange lawS3926BBeginWrong)

end Rows
end Go.Proofs.Ybulkccha
