/-
  No cell of these rows narrows 'for every input' (looked for: loops, veiled, ifaces, maps, wideKeys, modest, calm, conditions, laid).
  DERIVED. THE GIVEN ROWS OF THIS SEAT. 1 by the template 'for every input the law returns true; each argument reads behind the call as it read before'; 0 by the template 'total and deterministic' (their statements: YbulkcdyqTotals.lean).
  GIVEN WITH THE SEED: the statements are not yours to turn. If you find one false, say at which input.
  Laid BY PROGRAM, IN A SANDBOX (cutbox-rows.mjs): the forced cells as the released guide's own fill.sh prints them over the translation f19a97889697611e… (all of the seat's roots in one cut). By AI agents, Wed Nov 11 2026. No macro, syntax, notation, axiom, sorry.
-/
import Derived.Test.YbulkcdyqChecked
import GoSem.Claim
import GoSem.ClaimJoined
import GoSem.ClaimMapViews
import Derived.JoinedTies
import Derived.KernelRfl
namespace Go.Proofs.Ybulkcdyq
/- THE CELL 'sum', in the pinned program and in every row, IS THE sha256 OF THE DUMP (.gsa) THAT YbulkcdyqProg.lean LOADS. Nothing in Lean hashes anything: it is a label: what it is worth is what the hold of that sum in a sandbox is worth. -/
noncomputable def Yba.pinned : Pinned := { name := "ybulkcdyq", sum := "f19a97889697611e37f5b18764d385fa8bd52c55c78f41350229e212ba154bc6", checked := Yba.checked }
namespace Rows
def none {H : Type} : Left H := { results := [], args := [] }

/-- 'engine.LawS4007CReads': WHATEVER THE INPUT: true; the input reads as it did. -/
def lawS4007CReadsSpec : ChangeSpec := { name := "lawS4007CReads", fn := fun _ => fun
  | [d1, d2, d3, d4] => { results := [.lit (.bool true)], args := [d1, d2, d3, d4] }
  | _ => none }
def lawS4007CReadsRow : OpenClaim := { program := "ybulkcdyq", sum := "f19a97889697611e37f5b18764d385fa8bd52c55c78f41350229e212ba154bc6", func := "example.com/bearline/bearline/pkg/engine.LawS4007CReads", spec := "lawS4007CReads", unfollowed := true, recurses := true, apart := false }
def LawS4007CReadsSaid : Prop := lawS4007CReadsRow.holds Yba.pinned (OpenSpec.ofChange lawS4007CReadsSpec)

/-- ITS FALSE NEIGHBOUR: 'it returns false'. Refute it at one input. -/
def lawS4007CReadsWrong : ChangeSpec := { name := "lawS4007CReads", fn := fun _ => fun
  | [d1, d2, d3, d4] => { results := [.lit (.bool false)], args := [d1, d2, d3, d4] }
  | _ => none }
def LawS4007CReadsWrongFalsely : Prop := lawS4007CReadsRow.holds Yba.pinned (OpenSpec.ofChange lawS4007CReadsWrong)

end Rows
end Go.Proofs.Ybulkcdyq
