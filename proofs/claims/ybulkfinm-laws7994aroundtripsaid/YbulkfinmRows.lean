/-
  No cell of these rows narrows 'for every input' (looked for: loops, veiled, ifaces, maps, wideKeys, modest, calm, conditions, laid).
  DERIVED. THE GIVEN ROWS OF THIS SEAT. 2 by the template 'for every input the law returns true; each argument reads behind the call as it read before'; 0 by the template 'total and deterministic' (their statements: YbulkfinmTotals.lean).
  GIVEN WITH THE SEED: the statements are not yours to turn. If you find one false, say at which input.
  Laid BY PROGRAM, IN A SANDBOX (cutbox-rows.mjs): the forced cells as the released guide's own fill.sh prints them over the translation ca71bef93ab6f61d… (all of the seat's roots in one cut). By AI agents, Wed Nov 11 2026. No macro, syntax, notation, axiom, sorry.
-/
import Derived.Test.YbulkfinmChecked
import GoSem.Claim
import GoSem.ClaimJoined
import GoSem.ClaimMapViews
import Derived.JoinedTies
import Derived.KernelRfl
namespace Go.Proofs.Ybulkfinm
/- THE CELL 'sum', in the pinned program and in every row, IS THE sha256 OF THE DUMP (.gsa) THAT YbulkfinmProg.lean LOADS. Nothing in Lean hashes anything: it is a label: what it is worth is what the hold of that sum in a sandbox is worth. -/
noncomputable def Yba.pinned : Pinned := { name := "ybulkfinm", sum := "ca71bef93ab6f61d169184e2b507a52dba5c7bf276c003090ceaf09b8f83f119", checked := Yba.checked }
namespace Rows
def none {H : Type} : Left H := { results := [], args := [] }

/-- 'server.LawS7994AWhole': WHATEVER THE INPUT: true; the input reads as it did. -/
def lawS7994AWholeSpec : ChangeSpec := { name := "lawS7994AWhole", fn := fun _ => fun
  | [d1, d2, d3, d4, d5, d6, d7, d8, d9] => { results := [.lit (.bool true)], args := [d1, d2, d3, d4, d5, d6, d7, d8, d9] }
  | _ => none }
def lawS7994AWholeRow : OpenClaim := { program := "ybulkfinm", sum := "ca71bef93ab6f61d169184e2b507a52dba5c7bf276c003090ceaf09b8f83f119", func := "example.com/tributary/tributary/internal/server.LawS7994AWhole", spec := "lawS7994AWhole", inPlace := ["sync/atomic.StoreInt64", "(*internal/sync.Mutex).Lock", "internal/race.Disable", "sync/atomic.CompareAndSwapInt32", "internal/race.Enable", "internal/race.Acquire", "(*internal/sync.Mutex).lockSlow", "internal/sync.runtime_canSpin", "internal/sync.runtime_doSpin", "internal/sync.throw", "internal/sync.runtime_nanotime", "internal/sync.runtime_SemacquireMutex", "sync/atomic.AddInt32", "(*internal/sync.Mutex).Unlock", "internal/race.ReleaseMerge", "(*internal/sync.Mutex).unlockSlow", "internal/sync.fatal", "internal/sync.runtime_Semrelease", "sync/atomic.LoadInt64", "(*internal/sync.Mutex).TryLock"], plainKeys := false, apart := false }
def LawS7994AWholeSaid : Prop := lawS7994AWholeRow.holds Yba.pinned (OpenSpec.ofChange lawS7994AWholeSpec)

/-- ITS FALSE NEIGHBOUR: 'it returns false'. Refute it at one input. -/
def lawS7994AWholeWrong : ChangeSpec := { name := "lawS7994AWhole", fn := fun _ => fun
  | [d1, d2, d3, d4, d5, d6, d7, d8, d9] => { results := [.lit (.bool false)], args := [d1, d2, d3, d4, d5, d6, d7, d8, d9] }
  | _ => none }
def LawS7994AWholeWrongFalsely : Prop := lawS7994AWholeRow.holds Yba.pinned (OpenSpec.ofChange lawS7994AWholeWrong)

/-- 'server.LawS7994ARoundTrip': WHATEVER THE INPUT: true; the input reads as it did. -/
def lawS7994ARoundTripSpec : ChangeSpec := { name := "lawS7994ARoundTrip", fn := fun _ => fun
  | [d1, d2, d3, d4] => { results := [.lit (.bool true)], args := [d1, d2, d3, d4] }
  | _ => none }
def lawS7994ARoundTripRow : OpenClaim := { program := "ybulkfinm", sum := "ca71bef93ab6f61d169184e2b507a52dba5c7bf276c003090ceaf09b8f83f119", func := "example.com/tributary/tributary/internal/server.LawS7994ARoundTrip", spec := "lawS7994ARoundTrip", inPlace := ["(*internal/sync.Mutex).Lock", "internal/race.Disable", "sync/atomic.CompareAndSwapInt32", "internal/race.Enable", "internal/race.Acquire", "(*internal/sync.Mutex).lockSlow", "internal/sync.runtime_canSpin", "internal/sync.runtime_doSpin", "internal/sync.throw", "internal/sync.runtime_nanotime", "internal/sync.runtime_SemacquireMutex", "sync/atomic.AddInt32", "(*internal/sync.Mutex).Unlock", "internal/race.ReleaseMerge", "(*internal/sync.Mutex).unlockSlow", "internal/sync.fatal", "internal/sync.runtime_Semrelease", "sync/atomic.AddInt64", "sync/atomic.LoadInt64"], plainKeys := false, apart := false }
def LawS7994ARoundTripSaid : Prop := lawS7994ARoundTripRow.holds Yba.pinned (OpenSpec.ofChange lawS7994ARoundTripSpec)

/-- ITS FALSE NEIGHBOUR: 'it returns false'. Refute it at one input. -/
def lawS7994ARoundTripWrong : ChangeSpec := { name := "lawS7994ARoundTrip", fn := fun _ => fun
  | [d1, d2, d3, d4] => { results := [.lit (.bool false)], args := [d1, d2, d3, d4] }
  | _ => none }
def LawS7994ARoundTripWrongFalsely : Prop := lawS7994ARoundTripRow.holds Yba.pinned (OpenSpec.ofChange lawS7994ARoundTripWrong)

end Rows
end Go.Proofs.Ybulkfinm
