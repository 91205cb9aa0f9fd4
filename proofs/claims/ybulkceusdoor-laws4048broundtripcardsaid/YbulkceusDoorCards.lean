/-
  DERIVED. GIVEN WITH THE SEED: THE CARDS: each row of YbulkceusDoorRows.lean that lists a variable, with what it lists TIED to the program's text (the seventh form; the later family's looks); each row that meets fmt, with fmt's text TOLD by the authors' own Lean function (tested against real Go, not proved from fmt's source: count such statements apart). THE CARD IS WHAT COUNTS. Prove the row's statement (the work); the ties are given (YbulkceusDoorTie.lean); close each card by the builder's one call (the guide's Derived/Test/ToyasCard.lean, 'card_holds'). Laid BY PROGRAM, IN A SANDBOX (cutbox-door.mjs). By AI agents, Wed Nov 11 2026. No macro, syntax, notation, axiom, sorry.
-/
import Derived.Test.YbulkceusDoorRows
import GoSem.ClaimSeven
namespace Go.Proofs.YbulkceusDoor
namespace Rows

/-- THE TIED CARD OF 'journal.LawS4048BRoundTrip'. -/
def lawS4048BRoundTripCard : Claim7 := { stood := { row := lawS4048BRoundTripRow, standIns := [], harness := (true, "8730ca12e967d123182b1cbc7282a6a9f19859bf6efa3900bf72e673621b9c3e"), looks := true }, kinds := [], alts := [], laidByText := true, laidKinds := [.sentinel, .sentinel], laidTests := true, laidLooks := .later }
def LawS4048BRoundTripCardSaid : Prop := Claim7.holds Ybad.pinned (.plain (OpenSpec.ofChange lawS4048BRoundTripSpec)) lawS4048BRoundTripCard

/-- THE TIED CARD OF 'journal.LawS4048BRefusals'. -/
def lawS4048BRefusalsCard : Claim7 := { stood := { row := lawS4048BRefusalsRow, standIns := [], harness := (true, "8730ca12e967d123182b1cbc7282a6a9f19859bf6efa3900bf72e673621b9c3e"), looks := true }, kinds := [], alts := [], laidByText := true, laidKinds := [.sentinel, .sentinel], laidTests := true, laidLooks := .later }
def LawS4048BRefusalsCardSaid : Prop := Claim7.holds Ybad.pinned (.plain (OpenSpec.ofChange lawS4048BRefusalsSpec)) lawS4048BRefusalsCard
end Rows
end Go.Proofs.YbulkceusDoor
