/-
  DERIVED. GIVEN WITH THE SEED: THE CARDS: each row of YbulkcdzeDoorRows.lean that lists a variable, with what it lists TIED to the program's text (the seventh form; the later family's looks); each row that meets fmt, with fmt's text TOLD by the authors' own Lean function (tested against real Go, not proved from fmt's source: count such statements apart). THE CARD IS WHAT COUNTS. Prove the row's statement (the work); the ties are given (YbulkcdzeDoorTie.lean); close each card by the builder's one call (the guide's Derived/Test/ToyasCard.lean, 'card_holds'). Laid BY PROGRAM, IN A SANDBOX (cutbox-door.mjs). By AI agents, Wed Nov 11 2026. No macro, syntax, notation, axiom, sorry.
-/
import Derived.Test.YbulkcdzeDoorRows
import GoSem.ClaimSeven
namespace Go.Proofs.YbulkcdzeDoor
namespace Rows

/-- THE TIED CARD OF 'ledger.LawS4008AExact'. -/
def lawS4008AExactCard : Claim7 := { stood := { row := lawS4008AExactRow, standIns := [], harness := (true, "0c1d10c7edbb3442214116a824be04776b3b1ced0e421002de5aac0cc48e7549"), looks := false }, kinds := [], alts := [], laidByText := true, laidKinds := [.data], laidTests := true, laidLooks := .later }
def LawS4008AExactCardSaid : Prop := Claim7.holds Ybad.pinned (.plain (OpenSpec.ofChange lawS4008AExactSpec)) lawS4008AExactCard

/-- THE TIED CARD OF 'ledger.LawS4008ASummedWith'. -/
def lawS4008ASummedWithCard : Claim7 := { stood := { row := lawS4008ASummedWithRow, standIns := [], harness := (true, "0c1d10c7edbb3442214116a824be04776b3b1ced0e421002de5aac0cc48e7549"), looks := false }, kinds := [], alts := [], laidByText := true, laidKinds := [.data], laidTests := true, laidLooks := .later }
def LawS4008ASummedWithCardSaid : Prop := Claim7.holds Ybad.pinned (.plain (OpenSpec.ofChange lawS4008ASummedWithSpec)) lawS4008ASummedWithCard

/-- THE TIED CARD OF 'date.LawS4008CItoa'. -/
def lawS4008CItoaCard : Claim7 := { stood := { row := lawS4008CItoaRow, standIns := [], harness := (true, "0c1d10c7edbb3442214116a824be04776b3b1ced0e421002de5aac0cc48e7549"), looks := false }, kinds := [], alts := [], laidByText := true, laidKinds := [.data, .data, .data], laidTests := true, laidLooks := .later }
def LawS4008CItoaCardSaid : Prop := Claim7.holds Ybad.pinned (.plain (OpenSpec.ofChange lawS4008CItoaSpec)) lawS4008CItoaCard
end Rows
end Go.Proofs.YbulkcdzeDoor
