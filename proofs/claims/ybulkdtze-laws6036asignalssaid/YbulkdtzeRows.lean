/-
  No cell of these rows narrows 'for every input' (looked for: loops, veiled, ifaces, maps, wideKeys, modest, calm, conditions, laid).
  DERIVED. THE GIVEN ROWS OF THIS SEAT. 2 by the template 'for every input the law returns true; each argument reads behind the call as it read before'; 0 by the template 'total and deterministic' (their statements: YbulkdtzeTotals.lean).
  GIVEN WITH THE SEED: the statements are not yours to turn. If you find one false, say at which input.
  Laid BY PROGRAM, IN A SANDBOX (cutbox-rows.mjs): the forced cells as the released guide's own fill.sh prints them over the translation 5d9eb2af108768b0… (all of the seat's roots in one cut). By AI agents, Wed Nov 11 2026. No macro, syntax, notation, axiom, sorry.
-/
import Derived.Test.YbulkdtzeChecked
import GoSem.Claim
import GoSem.ClaimJoined
import GoSem.ClaimMapViews
import Derived.JoinedTies
import Derived.KernelRfl
namespace Go.Proofs.Ybulkdtze
/- THE CELL 'sum', in the pinned program and in every row, IS THE sha256 OF THE DUMP (.gsa) THAT YbulkdtzeProg.lean LOADS. Nothing in Lean hashes anything: it is a label: what it is worth is what the hold of that sum in a sandbox is worth. -/
noncomputable def Yba.pinned : Pinned := { name := "ybulkdtze", sum := "5d9eb2af108768b0256ff501ae4cafb34bff194b4575ac23b176dc5349eb4a20", checked := Yba.checked }
namespace Rows
def none {H : Type} : Left H := { results := [], args := [] }

/-- 'node.LawS6036AWhole': WHATEVER THE INPUT: true; the input reads as it did. -/
def lawS6036AWholeSpec : ChangeSpec := { name := "lawS6036AWhole", fn := fun _ => fun
  | [d1, d2, d3, d4] => { results := [.lit (.bool true)], args := [d1, d2, d3, d4] }
  | _ => none }
def lawS6036AWholeRow : OpenClaim := { program := "ybulkdtze", sum := "5d9eb2af108768b0256ff501ae4cafb34bff194b4575ac23b176dc5349eb4a20", func := "grovecast.example/grovecast/internal/node.LawS6036AWhole", spec := "lawS6036AWhole", inPlace := ["(*internal/sync.Mutex).Lock", "internal/race.Disable", "sync/atomic.CompareAndSwapInt32", "internal/race.Enable", "internal/race.Acquire", "(*internal/sync.Mutex).lockSlow", "internal/sync.runtime_canSpin", "internal/sync.runtime_doSpin", "internal/sync.throw", "internal/sync.runtime_nanotime", "internal/sync.runtime_SemacquireMutex", "sync/atomic.AddInt32", "(*internal/sync.Mutex).Unlock", "internal/race.ReleaseMerge", "(*internal/sync.Mutex).unlockSlow", "internal/sync.fatal", "internal/sync.runtime_Semrelease", "(*internal/sync.Mutex).TryLock"], unfollowed := true, recurses := true, plainKeys := false, apart := false }
def LawS6036AWholeSaid : Prop := lawS6036AWholeRow.holds Yba.pinned (OpenSpec.ofChange lawS6036AWholeSpec)

/-- ITS FALSE NEIGHBOUR: 'it returns false'. Refute it at one input. -/
def lawS6036AWholeWrong : ChangeSpec := { name := "lawS6036AWhole", fn := fun _ => fun
  | [d1, d2, d3, d4] => { results := [.lit (.bool false)], args := [d1, d2, d3, d4] }
  | _ => none }
def LawS6036AWholeWrongFalsely : Prop := lawS6036AWholeRow.holds Yba.pinned (OpenSpec.ofChange lawS6036AWholeWrong)

/-- 'node.LawS6036ASignals': WHATEVER THE INPUT: true; the input reads as it did. -/
def lawS6036ASignalsSpec : ChangeSpec := { name := "lawS6036ASignals", fn := fun _ => fun
  | [d1, d2, d3, d4, d5] => { results := [.lit (.bool true)], args := [d1, d2, d3, d4, d5] }
  | _ => none }
def lawS6036ASignalsRow : OpenClaim := { program := "ybulkdtze", sum := "5d9eb2af108768b0256ff501ae4cafb34bff194b4575ac23b176dc5349eb4a20", func := "grovecast.example/grovecast/internal/node.LawS6036ASignals", spec := "lawS6036ASignals", inPlace := ["(*internal/sync.Mutex).Lock", "internal/race.Disable", "sync/atomic.CompareAndSwapInt32", "internal/race.Enable", "internal/race.Acquire", "(*internal/sync.Mutex).lockSlow", "internal/sync.runtime_canSpin", "internal/sync.runtime_doSpin", "internal/sync.throw", "internal/sync.runtime_nanotime", "internal/sync.runtime_SemacquireMutex", "sync/atomic.AddInt32", "(*internal/sync.Mutex).Unlock", "internal/race.ReleaseMerge", "(*internal/sync.Mutex).unlockSlow", "internal/sync.fatal", "internal/sync.runtime_Semrelease", "(*internal/sync.Mutex).TryLock"], unfollowed := true, recurses := true, plainKeys := false, apart := false }
def LawS6036ASignalsSaid : Prop := lawS6036ASignalsRow.holds Yba.pinned (OpenSpec.ofChange lawS6036ASignalsSpec)

/-- ITS FALSE NEIGHBOUR: 'it returns false'. Refute it at one input. -/
def lawS6036ASignalsWrong : ChangeSpec := { name := "lawS6036ASignals", fn := fun _ => fun
  | [d1, d2, d3, d4, d5] => { results := [.lit (.bool false)], args := [d1, d2, d3, d4, d5] }
  | _ => none }
def LawS6036ASignalsWrongFalsely : Prop := lawS6036ASignalsRow.holds Yba.pinned (OpenSpec.ofChange lawS6036ASignalsWrong)

end Rows
end Go.Proofs.Ybulkdtze
