/-
  No cell of these rows narrows 'for every input' (looked for: loops, veiled, ifaces, maps, wideKeys, modest, calm, conditions, laid).
  DERIVED. THE GIVEN ROWS OF THIS SEAT. 2 by the template 'for every input the law returns true; each argument reads behind the call as it read before'; 0 by the template 'total and deterministic' (their statements: YbulkdaskTotals.lean).
  GIVEN WITH THE SEED: the statements are not yours to turn. If you find one false, say at which input.
  Laid BY PROGRAM, IN A SANDBOX (cutbox-rows.mjs): the forced cells as the released guide's own fill.sh prints them over the translation 877fc1d95e4eff58… (all of the seat's roots in one cut). By AI agents, Wed Nov 11 2026. No macro, syntax, notation, axiom, sorry.
-/
import Derived.Test.YbulkdaskChecked
import GoSem.Claim
import GoSem.ClaimJoined
import GoSem.ClaimMapViews
import Derived.JoinedTies
import Derived.KernelRfl
namespace Go.Proofs.Ybulkdask
/- THE CELL 'sum', in the pinned program and in every row, IS THE sha256 OF THE DUMP (.gsa) THAT YbulkdaskProg.lean LOADS. Nothing in Lean hashes anything: it is a label: what it is worth is what the hold of that sum in a sandbox is worth. -/
noncomputable def Yba.pinned : Pinned := { name := "ybulkdask", sum := "877fc1d95e4eff584bfe3487083bc0929bcbc8670681224cea0b85d681c06601", checked := Yba.checked }
namespace Rows
def none {H : Type} : Left H := { results := [], args := [] }

/-- 'clock.LawS5106BRunsDue': WHATEVER THE INPUT: true; the input reads as it did. -/
def lawS5106BRunsDueSpec : ChangeSpec := { name := "lawS5106BRunsDue", fn := fun _ => fun
  | [d1, d2, d3] => { results := [.lit (.bool true)], args := [d1, d2, d3] }
  | _ => none }
def lawS5106BRunsDueRow : OpenClaim := { program := "ybulkdask", sum := "877fc1d95e4eff584bfe3487083bc0929bcbc8670681224cea0b85d681c06601", func := "example.com/tidewheel/tidewheel/clock.LawS5106BRunsDue", spec := "lawS5106BRunsDue", inPlace := ["(*internal/sync.Mutex).Lock", "internal/race.Disable", "sync/atomic.CompareAndSwapInt32", "internal/race.Enable", "internal/race.Acquire", "(*internal/sync.Mutex).lockSlow", "internal/sync.runtime_canSpin", "internal/sync.runtime_doSpin", "internal/sync.throw", "internal/sync.runtime_nanotime", "internal/sync.runtime_SemacquireMutex", "sync/atomic.AddInt32", "(*internal/sync.Mutex).Unlock", "internal/race.ReleaseMerge", "(*internal/sync.Mutex).unlockSlow", "internal/sync.fatal", "internal/sync.runtime_Semrelease", "(*sync.Cond).Wait", "(*sync.copyChecker).check", "sync.runtime_notifyListAdd", "internal/race.Read", "sync.runtime_notifyListWait"], unfollowed := true, recurses := true, apart := false }
def LawS5106BRunsDueSaid : Prop := lawS5106BRunsDueRow.holds Yba.pinned (OpenSpec.ofChange lawS5106BRunsDueSpec)

/-- ITS FALSE NEIGHBOUR: 'it returns false'. Refute it at one input. -/
def lawS5106BRunsDueWrong : ChangeSpec := { name := "lawS5106BRunsDue", fn := fun _ => fun
  | [d1, d2, d3] => { results := [.lit (.bool false)], args := [d1, d2, d3] }
  | _ => none }
def LawS5106BRunsDueWrongFalsely : Prop := lawS5106BRunsDueRow.holds Yba.pinned (OpenSpec.ofChange lawS5106BRunsDueWrong)

/-- 'periodic.LawS5106CRun': WHATEVER THE INPUT: true; the input reads as it did. -/
def lawS5106CRunSpec : ChangeSpec := { name := "lawS5106CRun", fn := fun _ => fun
  | [d1, d2, d3, d4, d5, d6, d7] => { results := [.lit (.bool true)], args := [d1, d2, d3, d4, d5, d6, d7] }
  | _ => none }
def lawS5106CRunRow : OpenClaim := { program := "ybulkdask", sum := "877fc1d95e4eff584bfe3487083bc0929bcbc8670681224cea0b85d681c06601", func := "example.com/tidewheel/tidewheel/internal/periodic.LawS5106CRun", spec := "lawS5106CRun", inPlace := ["(*internal/sync.Mutex).Lock", "internal/race.Disable", "sync/atomic.CompareAndSwapInt32", "internal/race.Enable", "internal/race.Acquire", "(*internal/sync.Mutex).lockSlow", "internal/sync.runtime_canSpin", "internal/sync.runtime_doSpin", "internal/sync.throw", "internal/sync.runtime_nanotime", "internal/sync.runtime_SemacquireMutex", "sync/atomic.AddInt32", "(*internal/sync.Mutex).Unlock", "internal/race.ReleaseMerge", "(*internal/sync.Mutex).unlockSlow", "internal/sync.fatal", "internal/sync.runtime_Semrelease", "(*sync.WaitGroup).Done", "(*sync.WaitGroup).Add", "internal/synctest.IsInBubble", "internal/synctest.Associate[sync.WaitGroup]", "sync.fatal", "sync/atomic.OrUint64", "sync/atomic.AddUint64", "internal/race.Read", "sync/atomic.LoadUint64", "sync/atomic.StoreUint64", "internal/synctest.Disassociate[sync.WaitGroup]", "sync.runtime_Semrelease"], unfollowed := true, recurses := true, apart := false }
def LawS5106CRunSaid : Prop := lawS5106CRunRow.holds Yba.pinned (OpenSpec.ofChange lawS5106CRunSpec)

/-- ITS FALSE NEIGHBOUR: 'it returns false'. Refute it at one input. -/
def lawS5106CRunWrong : ChangeSpec := { name := "lawS5106CRun", fn := fun _ => fun
  | [d1, d2, d3, d4, d5, d6, d7] => { results := [.lit (.bool false)], args := [d1, d2, d3, d4, d5, d6, d7] }
  | _ => none }
def LawS5106CRunWrongFalsely : Prop := lawS5106CRunRow.holds Yba.pinned (OpenSpec.ofChange lawS5106CRunWrong)

end Rows
end Go.Proofs.Ybulkdask
