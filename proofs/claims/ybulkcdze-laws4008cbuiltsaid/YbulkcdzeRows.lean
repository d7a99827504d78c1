/-
  No cell of these rows narrows 'for every input' (looked for: loops, veiled, ifaces, maps, wideKeys, modest, calm, conditions, laid).
  DERIVED. THE GIVEN ROWS OF THIS SEAT. 2 by the template 'for every input the law returns true; each argument reads behind the call as it read before'; 0 by the template 'total and deterministic' (their statements: YbulkcdzeTotals.lean).
  GIVEN WITH THE SEED: the statements are not yours to turn. If you find one false, say at which input.
  Laid BY PROGRAM, IN A SANDBOX (cutbox-rows.mjs): the forced cells as the released guide's own fill.sh prints them over the translation a0ebc17faac45d44… (all of the seat's roots in one cut). By AI agents, Wed Nov 11 2026. No macro, syntax, notation, axiom, sorry.
-/
import Derived.Test.YbulkcdzeChecked
import GoSem.Claim
import GoSem.ClaimJoined
import GoSem.ClaimMapViews
import Derived.JoinedTies
import Derived.KernelRfl
namespace Go.Proofs.Ybulkcdze
/- THE CELL 'sum', in the pinned program and in every row, IS THE sha256 OF THE DUMP (.gsa) THAT YbulkcdzeProg.lean LOADS. Nothing in Lean hashes anything: it is a label: what it is worth is what the hold of that sum in a sandbox is worth. -/
noncomputable def Yba.pinned : Pinned := { name := "ybulkcdze", sum := "a0ebc17faac45d44c98173e614d2df815501d7b071d1f3467361d4bcc05792c9", checked := Yba.checked }
namespace Rows
def none {H : Type} : Left H := { results := [], args := [] }

/-- 'date.LawS4008CRaw': WHATEVER THE INPUT: true; the input reads as it did. -/
def lawS4008CRawSpec : ChangeSpec := { name := "lawS4008CRaw", fn := fun _ => fun
  | [d] => { results := [.lit (.bool true)], args := [d] }
  | _ => none }
def lawS4008CRawRow : OpenClaim := { program := "ybulkcdze", sum := "a0ebc17faac45d44c98173e614d2df815501d7b071d1f3467361d4bcc05792c9", func := "example.com/kindred-ledger/kindred-ledger/internal/date.LawS4008CRaw", spec := "lawS4008CRaw", apart := false }
def LawS4008CRawSaid : Prop := lawS4008CRawRow.holds Yba.pinned (OpenSpec.ofChange lawS4008CRawSpec)

/-- ITS FALSE NEIGHBOUR: 'it returns false'. Refute it at one input. -/
def lawS4008CRawWrong : ChangeSpec := { name := "lawS4008CRaw", fn := fun _ => fun
  | [d] => { results := [.lit (.bool false)], args := [d] }
  | _ => none }
def LawS4008CRawWrongFalsely : Prop := lawS4008CRawRow.holds Yba.pinned (OpenSpec.ofChange lawS4008CRawWrong)

/-- 'date.LawS4008CBuilt': WHATEVER THE INPUT: true; the input reads as it did. -/
def lawS4008CBuiltSpec : ChangeSpec := { name := "lawS4008CBuilt", fn := fun _ => fun
  | [d1, d2, d3, d4] => { results := [.lit (.bool true)], args := [d1, d2, d3, d4] }
  | _ => none }
def lawS4008CBuiltRow : OpenClaim := { program := "ybulkcdze", sum := "a0ebc17faac45d44c98173e614d2df815501d7b071d1f3467361d4bcc05792c9", func := "example.com/kindred-ledger/kindred-ledger/internal/date.LawS4008CBuilt", spec := "lawS4008CBuilt", apart := false }
def LawS4008CBuiltSaid : Prop := lawS4008CBuiltRow.holds Yba.pinned (OpenSpec.ofChange lawS4008CBuiltSpec)

/-- ITS FALSE NEIGHBOUR: 'it returns false'. Refute it at one input. -/
def lawS4008CBuiltWrong : ChangeSpec := { name := "lawS4008CBuilt", fn := fun _ => fun
  | [d1, d2, d3, d4] => { results := [.lit (.bool false)], args := [d1, d2, d3, d4] }
  | _ => none }
def LawS4008CBuiltWrongFalsely : Prop := lawS4008CBuiltRow.holds Yba.pinned (OpenSpec.ofChange lawS4008CBuiltWrong)

end Rows
end Go.Proofs.Ybulkcdze
