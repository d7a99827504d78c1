/-
  No cell of these rows narrows 'for every input' (looked for: loops, veiled, ifaces, maps, wideKeys, modest, calm, conditions, laid).
  DERIVED. THE GIVEN ROWS OF THIS SEAT. 1 by the template 'for every input the law returns true; each argument reads behind the call as it read before'; 0 by the template 'total and deterministic' (their statements: YbulkcdxaTotals.lean).
  GIVEN WITH THE SEED: the statements are not yours to turn. If you find one false, say at which input.
  Laid BY PROGRAM, IN A SANDBOX (cutbox-rows.mjs): the forced cells as the released guide's own fill.sh prints them over the translation f4d5e5186d2010cc… (all of the seat's roots in one cut). By AI agents, Wed Nov 11 2026. No macro, syntax, notation, axiom, sorry.
-/
import Derived.Test.YbulkcdxaChecked
import GoSem.Claim
import GoSem.ClaimJoined
import GoSem.ClaimMapViews
import Derived.JoinedTies
import Derived.KernelRfl
namespace Go.Proofs.Ybulkcdxa
/- THE CELL 'sum', in the pinned program and in every row, IS THE sha256 OF THE DUMP (.gsa) THAT YbulkcdxaProg.lean LOADS. Nothing in Lean hashes anything: it is a label: what it is worth is what the hold of that sum in a sandbox is worth. -/
noncomputable def Yba.pinned : Pinned := { name := "ybulkcdxa", sum := "f4d5e5186d2010cc766b2d3e4c4ef8c7ab3afb6bff6fcb09e1ba7785c9c7cd38", checked := Yba.checked }
namespace Rows
def none {H : Type} : Left H := { results := [], args := [] }

/-- 'link.LawS4004CNeighbour': WHATEVER THE INPUT: true; the input reads as it did. -/
def lawS4004CNeighbourSpec : ChangeSpec := { name := "lawS4004CNeighbour", fn := fun _ => fun
  | [d] => { results := [.lit (.bool true)], args := [d] }
  | _ => none }
def lawS4004CNeighbourRow : OpenClaim := { program := "ybulkcdxa", sum := "f4d5e5186d2010cc766b2d3e4c4ef8c7ab3afb6bff6fcb09e1ba7785c9c7cd38", func := "example.com/absentia/absentia/link.LawS4004CNeighbour", spec := "lawS4004CNeighbour", inPlace := ["(*internal/sync.Mutex).Lock", "internal/race.Disable", "sync/atomic.CompareAndSwapInt32", "internal/race.Enable", "internal/race.Acquire", "(*internal/sync.Mutex).lockSlow", "internal/sync.runtime_canSpin", "internal/sync.runtime_doSpin", "internal/sync.throw", "internal/sync.runtime_nanotime", "internal/sync.runtime_SemacquireMutex", "sync/atomic.AddInt32", "(*internal/sync.Mutex).Unlock", "internal/race.ReleaseMerge", "(*internal/sync.Mutex).unlockSlow", "internal/sync.fatal", "internal/sync.runtime_Semrelease", "(*internal/sync.Mutex).TryLock"], apart := false }
def LawS4004CNeighbourSaid : Prop := lawS4004CNeighbourRow.holds Yba.pinned (OpenSpec.ofChange lawS4004CNeighbourSpec)

/-- ITS FALSE NEIGHBOUR: 'it returns false'. Refute it at one input. -/
def lawS4004CNeighbourWrong : ChangeSpec := { name := "lawS4004CNeighbour", fn := fun _ => fun
  | [d] => { results := [.lit (.bool false)], args := [d] }
  | _ => none }
def LawS4004CNeighbourWrongFalsely : Prop := lawS4004CNeighbourRow.holds Yba.pinned (OpenSpec.ofChange lawS4004CNeighbourWrong)

end Rows
end Go.Proofs.Ybulkcdxa
