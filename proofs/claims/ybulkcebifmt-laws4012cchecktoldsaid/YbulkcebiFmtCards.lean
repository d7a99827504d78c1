/-
  DERIVED. GIVEN WITH THE SEED: THE CARDS: each row of YbulkcebiFmtRows.lean that lists a variable, with what it lists TIED to the program's text (the seventh form; the later family's looks); each row that meets fmt, with fmt's text TOLD by the authors' own Lean function (tested against real Go, not proved from fmt's source: count such statements apart). THE CARD IS WHAT COUNTS. Prove the row's statement (the work); the ties are given (YbulkcebiFmtTie.lean); close each card by the builder's one call (the guide's Derived/Test/ToyasCard.lean, 'card_holds'). Laid BY PROGRAM, IN A SANDBOX (cutbox-door.mjs). By AI agents, Wed Nov 11 2026. No macro, syntax, notation, axiom, sorry.
-/
import Derived.Test.YbulkcebiFmtRows
import GoSem.ClaimSeven
namespace Go.Proofs.YbulkcebiFmt
namespace Rows

/-- THE TOLD CARD OF 'runner.LawS4012CCheck'. -/
def lawS4012CCheckCard : Claim7 := { stood := { row := lawS4012CCheckRow, standIns := [], harness := (true, "1b544821da7c59ab3c8bcbfb9299344f5a765145fc3a18fb8cde2e4f92f9638a"), looks := true }, told := true, goes := false }
def LawS4012CCheckToldSaid : Prop := Claim7.holds Ybaf.pinned (.plain (OpenSpec.ofChange lawS4012CCheckSpec)) lawS4012CCheckCard
/-- ITS FALSE NEIGHBOUR. Refute it at one input. -/
def LawS4012CCheckToldWrongFalsely : Prop := Claim7.holds Ybaf.pinned (.plain (OpenSpec.ofChange lawS4012CCheckWrong)) lawS4012CCheckCard

/-- THE TOLD CARD OF 'runner.LawS4012CNoCounter'. -/
def lawS4012CNoCounterCard : Claim7 := { stood := { row := lawS4012CNoCounterRow, standIns := [], harness := (true, "1b544821da7c59ab3c8bcbfb9299344f5a765145fc3a18fb8cde2e4f92f9638a"), looks := true }, told := true, goes := false }
def LawS4012CNoCounterToldSaid : Prop := Claim7.holds Ybaf.pinned (.plain (OpenSpec.ofChange lawS4012CNoCounterSpec)) lawS4012CNoCounterCard
/-- ITS FALSE NEIGHBOUR. Refute it at one input. -/
def LawS4012CNoCounterToldWrongFalsely : Prop := Claim7.holds Ybaf.pinned (.plain (OpenSpec.ofChange lawS4012CNoCounterWrong)) lawS4012CNoCounterCard
end Rows
end Go.Proofs.YbulkcebiFmt
