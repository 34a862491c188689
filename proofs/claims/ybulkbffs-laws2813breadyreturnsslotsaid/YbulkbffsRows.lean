/-
  No cell of these rows narrows 'for every input' (looked for: loops, veiled, ifaces, maps, wideKeys, modest, calm, conditions, laid).
  DERIVED. THE GIVEN ROWS OF THIS SEAT. 1 by the template 'for every input the law returns true; each argument reads behind the call as it read before'; 0 by the template 'total and deterministic' (their statements: YbulkbffsTotals.lean).
  GIVEN WITH THE SEED: the statements are not yours to turn. If you find one false, say at which input.
  Laid BY PROGRAM, IN A SANDBOX (cutbox-rows.mjs): the forced cells as the released guide's own fill.sh prints them over the translation bc7f077b60fcbd1a… (all of the seat's roots in one cut). By AI agents, Wed Nov 11 2026. No macro, syntax, notation, axiom, sorry.
-/
import Derived.Test.YbulkbffsChecked
import GoSem.Claim
import GoSem.ClaimJoined
import GoSem.ClaimMapViews
import Derived.JoinedTies
import Derived.KernelRfl
namespace Go.Proofs.Ybulkbffs
/- THE CELL 'sum', in the pinned program and in every row, IS THE sha256 OF THE DUMP (.gsa) THAT YbulkbffsProg.lean LOADS. Nothing in Lean hashes anything: it is a label: what it is worth is what the hold of that sum in a sandbox is worth. -/
noncomputable def Yba.pinned : Pinned := { name := "ybulkbffs", sum := "bc7f077b60fcbd1a3d99674f85f2452439b41fffeedbed758ad20c44ffec8ce5", checked := Yba.checked }
namespace Rows
def none {H : Type} : Left H := { results := [], args := [] }

/-- 'bundlewire.LawS2813BReadyReturnsSlot': WHATEVER THE INPUT: true; the input reads as it did. -/
def lawS2813BReadyReturnsSlotSpec : ChangeSpec := { name := "lawS2813BReadyReturnsSlot", fn := fun _ => fun
  | [d] => { results := [.lit (.bool true)], args := [d] }
  | _ => none }
def lawS2813BReadyReturnsSlotRow : OpenClaim := { program := "ybulkbffs", sum := "bc7f077b60fcbd1a3d99674f85f2452439b41fffeedbed758ad20c44ffec8ce5", func := "example.com/bundlewire/bundlewire.LawS2813BReadyReturnsSlot", spec := "lawS2813BReadyReturnsSlot", inPlace := ["(*internal/sync.Mutex).Lock", "internal/race.Disable", "sync/atomic.CompareAndSwapInt32", "internal/race.Enable", "internal/race.Acquire", "(*internal/sync.Mutex).lockSlow", "internal/sync.runtime_canSpin", "internal/sync.runtime_doSpin", "internal/sync.throw", "internal/sync.runtime_nanotime", "internal/sync.runtime_SemacquireMutex", "sync/atomic.AddInt32", "(*internal/sync.Mutex).Unlock", "internal/race.ReleaseMerge", "(*internal/sync.Mutex).unlockSlow", "internal/sync.fatal", "internal/sync.runtime_Semrelease", "(*internal/sync.Mutex).TryLock"], apart := false }
def LawS2813BReadyReturnsSlotSaid : Prop := lawS2813BReadyReturnsSlotRow.holds Yba.pinned (OpenSpec.ofChange lawS2813BReadyReturnsSlotSpec)

/-- ITS FALSE NEIGHBOUR: 'it returns false'. Refute it at one input. -/
def lawS2813BReadyReturnsSlotWrong : ChangeSpec := { name := "lawS2813BReadyReturnsSlot", fn := fun _ => fun
  | [d] => { results := [.lit (.bool false)], args := [d] }
  | _ => none }
def LawS2813BReadyReturnsSlotWrongFalsely : Prop := lawS2813BReadyReturnsSlotRow.holds Yba.pinned (OpenSpec.ofChange lawS2813BReadyReturnsSlotWrong)

end Rows
end Go.Proofs.Ybulkbffs
