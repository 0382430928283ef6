/-
  No cell of these rows narrows 'for every input' (looked for: loops, veiled, ifaces, maps, wideKeys, modest, calm, conditions, laid).
  DERIVED. THE GIVEN ROWS OF THIS SEAT. 3 by the template 'for every input the law returns true; each argument reads behind the call as it read before'; 0 by the template 'total and deterministic' (their statements: YbulkecbeTotals.lean).
  GIVEN WITH THE SEED: the statements are not yours to turn. If you find one false, say at which input.
  Laid BY PROGRAM, IN A SANDBOX (cutbox-rows.mjs): the forced cells as the released guide's own fill.sh prints them over the translation 445378af453ff7c7… (all of the seat's roots in one cut). By AI agents, Wed Nov 11 2026. No macro, syntax, notation, axiom, sorry.
-/
import Derived.Test.YbulkecbeChecked
import GoSem.Claim
import GoSem.ClaimJoined
import GoSem.ClaimMapViews
import Derived.JoinedTies
import Derived.KernelRfl
namespace Go.Proofs.Ybulkecbe
/- THE CELL 'sum', in the pinned program and in every row, IS THE sha256 OF THE DUMP (.gsa) THAT YbulkecbeProg.lean LOADS. Nothing in Lean hashes anything: it is a label: what it is worth is what the hold of that sum in a sandbox is worth. -/
noncomputable def Yba.pinned : Pinned := { name := "ybulkecbe", sum := "445378af453ff7c71eb539d5b84aaa4cee05c9d37faee1d11f2e6457359be631", checked := Yba.checked }
namespace Rows
def none {H : Type} : Left H := { results := [], args := [] }

/-- 'shm.LawS6426AWhole': WHATEVER THE INPUT: true; the input reads as it did. -/
def lawS6426AWholeSpec : ChangeSpec := { name := "lawS6426AWhole", fn := fun _ => fun
  | [d1, d2, d3] => { results := [.lit (.bool true)], args := [d1, d2, d3] }
  | _ => none }
def lawS6426AWholeRow : OpenClaim := { program := "ybulkecbe", sum := "445378af453ff7c71eb539d5b84aaa4cee05c9d37faee1d11f2e6457359be631", func := "example.com/gaugewire/gaugewire/shm.LawS6426AWhole", spec := "lawS6426AWhole", inPlace := ["(*internal/sync.Mutex).Lock", "internal/race.Disable", "sync/atomic.CompareAndSwapInt32", "internal/race.Enable", "internal/race.Acquire", "(*internal/sync.Mutex).lockSlow", "internal/sync.runtime_canSpin", "internal/sync.runtime_doSpin", "internal/sync.throw", "internal/sync.runtime_nanotime", "internal/sync.runtime_SemacquireMutex", "sync/atomic.AddInt32", "(*internal/sync.Mutex).Unlock", "internal/race.ReleaseMerge", "(*internal/sync.Mutex).unlockSlow", "internal/sync.fatal", "internal/sync.runtime_Semrelease", "(*internal/sync.Mutex).TryLock"], plainKeys := false, apart := false }
def LawS6426AWholeSaid : Prop := lawS6426AWholeRow.holds Yba.pinned (OpenSpec.ofChange lawS6426AWholeSpec)

/-- ITS FALSE NEIGHBOUR: 'it returns false'. Refute it at one input. -/
def lawS6426AWholeWrong : ChangeSpec := { name := "lawS6426AWhole", fn := fun _ => fun
  | [d1, d2, d3] => { results := [.lit (.bool false)], args := [d1, d2, d3] }
  | _ => none }
def LawS6426AWholeWrongFalsely : Prop := lawS6426AWholeRow.holds Yba.pinned (OpenSpec.ofChange lawS6426AWholeWrong)

/-- 'store.LawS6426BWhole': WHATEVER THE INPUT: true; the input reads as it did. -/
def lawS6426BWholeSpec : ChangeSpec := { name := "lawS6426BWhole", fn := fun _ => fun
  | [d1, d2] => { results := [.lit (.bool true)], args := [d1, d2] }
  | _ => none }
def lawS6426BWholeRow : OpenClaim := { program := "ybulkecbe", sum := "445378af453ff7c71eb539d5b84aaa4cee05c9d37faee1d11f2e6457359be631", func := "example.com/gaugewire/gaugewire/store.LawS6426BWhole", spec := "lawS6426BWhole", inPlace := ["(*sync.RWMutex).RLock", "internal/race.Read", "internal/race.Disable", "sync/atomic.AddInt32", "sync.runtime_SemacquireRWMutexR", "internal/race.Enable", "internal/race.Acquire", "(*sync.RWMutex).RUnlock", "internal/race.ReleaseMerge", "(*sync.RWMutex).rUnlockSlow", "sync.fatal", "sync.runtime_Semrelease"], recurses := true, plainKeys := false, apart := false }
def LawS6426BWholeSaid : Prop := lawS6426BWholeRow.holds Yba.pinned (OpenSpec.ofChange lawS6426BWholeSpec)

/-- ITS FALSE NEIGHBOUR: 'it returns false'. Refute it at one input. -/
def lawS6426BWholeWrong : ChangeSpec := { name := "lawS6426BWhole", fn := fun _ => fun
  | [d1, d2] => { results := [.lit (.bool false)], args := [d1, d2] }
  | _ => none }
def LawS6426BWholeWrongFalsely : Prop := lawS6426BWholeRow.holds Yba.pinned (OpenSpec.ofChange lawS6426BWholeWrong)

/-- 'connlimit.LawS6426CWhole': WHATEVER THE INPUT: true; the input reads as it did. -/
def lawS6426CWholeSpec : ChangeSpec := { name := "lawS6426CWhole", fn := fun _ => fun
  | [d1, d2] => { results := [.lit (.bool true)], args := [d1, d2] }
  | _ => none }
def lawS6426CWholeRow : OpenClaim := { program := "ybulkecbe", sum := "445378af453ff7c71eb539d5b84aaa4cee05c9d37faee1d11f2e6457359be631", func := "example.com/gaugewire/gaugewire/connlimit.LawS6426CWhole", spec := "lawS6426CWhole", plainKeys := false, apart := false }
def LawS6426CWholeSaid : Prop := lawS6426CWholeRow.holds Yba.pinned (OpenSpec.ofChange lawS6426CWholeSpec)

/-- ITS FALSE NEIGHBOUR: 'it returns false'. Refute it at one input. -/
def lawS6426CWholeWrong : ChangeSpec := { name := "lawS6426CWhole", fn := fun _ => fun
  | [d1, d2] => { results := [.lit (.bool false)], args := [d1, d2] }
  | _ => none }
def LawS6426CWholeWrongFalsely : Prop := lawS6426CWholeRow.holds Yba.pinned (OpenSpec.ofChange lawS6426CWholeWrong)

end Rows
end Go.Proofs.Ybulkecbe
