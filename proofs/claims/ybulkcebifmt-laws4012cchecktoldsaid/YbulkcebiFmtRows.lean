/-
  No cell of these rows narrows 'for every input' (looked for: loops, veiled, ifaces, maps, wideKeys, modest, calm, conditions, laid).
  DERIVED. THE GIVEN ROWS OF THIS SEAT. 2 by the template 'for every input the law returns true; each argument reads behind the call as it read before'; 0 by the template 'total and deterministic' (their statements: YbulkcebiFmtTotals.lean).
  GIVEN WITH THE SEED: the statements are not yours to turn. If you find one false, say at which input.
  Laid BY PROGRAM, IN A SANDBOX (cutbox-rows.mjs): the forced cells as the released guide's own fill.sh prints them over the translation d9a49b8733fc46fa… (all of the seat's roots in one cut). By AI agents, Wed Nov 11 2026. No macro, syntax, notation, axiom, sorry.
-/
import Derived.Test.YbulkcebiFmtChecked
import GoSem.Claim
import GoSem.ClaimJoined
import GoSem.ClaimMapViews
import Derived.JoinedTies
import Derived.KernelRfl
namespace Go.Proofs.YbulkcebiFmt
/- THE CELL 'sum', in the pinned program and in every row, IS THE sha256 OF THE DUMP (.gsa) THAT YbulkcebiFmtProg.lean LOADS. Nothing in Lean hashes anything: it is a label: what it is worth is what the hold of that sum in a sandbox is worth. -/
noncomputable def Ybaf.pinned : Pinned := { name := "ybulkcebifmt", sum := "d9a49b8733fc46fae2c147c1ff68892fabec1eeb4e13ebf47f85c601344fe5f7", checked := Ybaf.checked }
namespace Rows
def none {H : Type} : Left H := { results := [], args := [] }

/-- 'runner.LawS4012CCheck': WHATEVER THE INPUT: true; the input reads as it did. -/
def lawS4012CCheckSpec : ChangeSpec := { name := "lawS4012CCheck", fn := fun _ => fun
  | [d1, d2, d3, d4, d5, d6, d7] => { results := [.lit (.bool true)], args := [d1, d2, d3, d4, d5, d6, d7] }
  | _ => none }
def lawS4012CCheckRow : OpenClaim := { program := "ybulkcebifmt", sum := "d9a49b8733fc46fae2c147c1ff68892fabec1eeb4e13ebf47f85c601344fe5f7", func := "example.com/holdfast/holdfast/pkg/runner.LawS4012CCheck", spec := "lawS4012CCheck", stops := ["fmt.Sprintf", "fmt.errorf"], inPlace := ["fmt.errorf", "fmt.Sprintf", "internal/abi.NoEscape", "internal/bytealg.MakeNoZero", "internal/reflectlite.TypeOf"], unfollowed := true, recurses := true, apart := false }
/-- NO THEOREM (fmt's text is open here; it may be false): for the released tool's asking of the row's closed facts alone. THE STATEMENT IS 'LawS4012CCheckToldSaid' (YbulkcebiFmtCards.lean). -/
def LawS4012CCheckFormAsk : Prop := lawS4012CCheckRow.holds Ybaf.pinned (OpenSpec.ofChange lawS4012CCheckSpec)

/-- ITS FALSE NEIGHBOUR: 'it returns false'. Refute it at one input. -/
def lawS4012CCheckWrong : ChangeSpec := { name := "lawS4012CCheck", fn := fun _ => fun
  | [d1, d2, d3, d4, d5, d6, d7] => { results := [.lit (.bool false)], args := [d1, d2, d3, d4, d5, d6, d7] }
  | _ => none }
def LawS4012CCheckWrongFormAsk : Prop := lawS4012CCheckRow.holds Ybaf.pinned (OpenSpec.ofChange lawS4012CCheckWrong)

/-- 'runner.LawS4012CNoCounter': WHATEVER THE INPUT: true; the input reads as it did. -/
def lawS4012CNoCounterSpec : ChangeSpec := { name := "lawS4012CNoCounter", fn := fun _ => fun
  | [d1, d2, d3, d4, d5] => { results := [.lit (.bool true)], args := [d1, d2, d3, d4, d5] }
  | _ => none }
def lawS4012CNoCounterRow : OpenClaim := { program := "ybulkcebifmt", sum := "d9a49b8733fc46fae2c147c1ff68892fabec1eeb4e13ebf47f85c601344fe5f7", func := "example.com/holdfast/holdfast/pkg/runner.LawS4012CNoCounter", spec := "lawS4012CNoCounter", stops := ["fmt.Sprintf", "fmt.errorf"], inPlace := ["fmt.errorf", "fmt.Sprintf", "internal/abi.NoEscape", "internal/bytealg.MakeNoZero"], unfollowed := true, recurses := true, apart := false }
/-- NO THEOREM (fmt's text is open here; it may be false): for the released tool's asking of the row's closed facts alone. THE STATEMENT IS 'LawS4012CNoCounterToldSaid' (YbulkcebiFmtCards.lean). -/
def LawS4012CNoCounterFormAsk : Prop := lawS4012CNoCounterRow.holds Ybaf.pinned (OpenSpec.ofChange lawS4012CNoCounterSpec)

/-- ITS FALSE NEIGHBOUR: 'it returns false'. Refute it at one input. -/
def lawS4012CNoCounterWrong : ChangeSpec := { name := "lawS4012CNoCounter", fn := fun _ => fun
  | [d1, d2, d3, d4, d5] => { results := [.lit (.bool false)], args := [d1, d2, d3, d4, d5] }
  | _ => none }
def LawS4012CNoCounterWrongFormAsk : Prop := lawS4012CNoCounterRow.holds Ybaf.pinned (OpenSpec.ofChange lawS4012CNoCounterWrong)

end Rows
end Go.Proofs.YbulkcebiFmt
