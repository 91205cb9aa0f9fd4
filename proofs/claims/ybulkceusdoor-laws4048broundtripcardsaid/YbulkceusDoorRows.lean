/-
  NARROWER THAN 'FOR EVERY INPUT', by the rows' own cells (each row's printed sentence says how): LawS4048BRoundTrip: ifaces, laid · LawS4048BRefusals: ifaces, laid.
  DERIVED. THE GIVEN ROWS OF THIS SEAT. 2 by the template 'for every input the law returns true; each argument reads behind the call as it read before'; 0 by the template 'total and deterministic' (their statements: YbulkceusDoorTotals.lean).
  GIVEN WITH THE SEED: the statements are not yours to turn. If you find one false, say at which input.
  Laid BY PROGRAM, IN A SANDBOX (cutbox-rows.mjs): the forced cells as the released guide's own fill.sh prints them over the translation 0f96aa8bbbaabe39… (all of the seat's roots in one cut). By AI agents, Wed Nov 11 2026. No macro, syntax, notation, axiom, sorry.
-/
import Derived.Test.YbulkceusDoorChecked
import GoSem.Claim
import GoSem.ClaimJoined
import GoSem.ClaimMapViews
import Derived.JoinedTies
import Derived.KernelRfl
namespace Go.Proofs.YbulkceusDoor
/- THE CELL 'sum', in the pinned program and in every row, IS THE sha256 OF THE DUMP (.gsa) THAT YbulkceusDoorProg.lean LOADS. Nothing in Lean hashes anything: it is a label: what it is worth is what the hold of that sum in a sandbox is worth. -/
noncomputable def Ybad.pinned : Pinned := { name := "ybulkceusdoor", sum := "0f96aa8bbbaabe39e58282ccb38ce95a7ff281646fce8f2e89618236addc1b36", checked := Ybad.checked }
namespace Rows
def none {H : Type} : Left H := { results := [], args := [] }

/- WHAT THE LISTED PACKAGE-LEVEL VARIABLES READ AS WHEN THE CALL BEGINS. Each datum BY PROGRAM (the guide's laid-datum.mjs) off the statement by which the dump's own 'gosem.cut.vars' lays the variable. In a bare row this is a premise. The card (YbulkceusDoorCards.lean) ties it to the program's text. -/
def laid_example_com_bloomring_bloomring_journal_errBadCreate {H : Type} : DataW H := .iface "*errors.errorString" (.ptr (.agg [.lit (.string [97, 32, 114, 101, 99, 111, 114, 100, 32, 111, 102, 32, 97, 32, 102, 105, 108, 116, 101, 114, 32, 109, 97, 100, 101, 32, 105, 115, 32, 110, 111, 116, 32, 97, 32, 99, 97, 112, 97, 99, 105, 116, 121, 44, 32, 97, 110, 32, 101, 114, 114, 111, 114, 32, 114, 97, 116, 101, 44, 32, 97, 110, 32, 101, 120, 112, 97, 110, 115, 105, 111, 110, 32, 97, 110, 100, 32, 119, 104, 101, 116, 104, 101, 114, 32, 105, 116, 32, 103, 114, 111, 119, 115])]))
def laid_example_com_bloomring_bloomring_journal_errBadWindow {H : Type} : DataW H := .iface "*errors.errorString" (.ptr (.agg [.lit (.string [97, 32, 114, 101, 99, 111, 114, 100, 32, 111, 102, 32, 97, 32, 119, 105, 110, 100, 111, 119, 101, 100, 32, 102, 105, 108, 116, 101, 114, 32, 109, 97, 100, 101, 32, 101, 110, 100, 115, 32, 105, 110, 32, 119, 104, 97, 116, 32, 105, 115, 32, 110, 111, 116, 32, 105, 116, 115, 32, 119, 105, 110, 100, 111, 119, 32, 97, 110, 100, 32, 115, 116, 97, 114, 116])]))

/-- 'journal.LawS4048BRoundTrip': WHATEVER THE INPUT: true; the input reads as it did. -/
def lawS4048BRoundTripSpec : ChangeSpec := { name := "lawS4048BRoundTrip", vars := ["example.com/bloomring/bloomring/journal.errBadCreate", "example.com/bloomring/bloomring/journal.errBadWindow"], fn := fun _ => fun
  | [d1, d2, d3, d4, d5, d6, d7, d8, d9, g1, g2] => { results := [.lit (.bool true)], args := [d1, d2, d3, d4, d5, d6, d7, d8, d9], vars := [g1, g2] }
  | _ => none }
def lawS4048BRoundTripRow : OpenClaim := { program := "ybulkceusdoor", sum := "0f96aa8bbbaabe39e58282ccb38ce95a7ff281646fce8f2e89618236addc1b36", func := "example.com/bloomring/bloomring/journal.LawS4048BRoundTrip", spec := "lawS4048BRoundTrip", inPlace := ["math.Float64frombits", "math.Float64bits"], named := ["encoding/binary.LittleEndian", "example.com/bloomring/bloomring/journal.errBadCreate", "example.com/bloomring/bloomring/journal.errBadWindow"], ifaces := true, apart := false, laid := [("example.com/bloomring/bloomring/journal.errBadCreate", laid_example_com_bloomring_bloomring_journal_errBadCreate), ("example.com/bloomring/bloomring/journal.errBadWindow", laid_example_com_bloomring_bloomring_journal_errBadWindow)] }
def LawS4048BRoundTripSaid : Prop := lawS4048BRoundTripRow.holds Ybad.pinned (OpenSpec.ofChange lawS4048BRoundTripSpec)

/-- ITS FALSE NEIGHBOUR: 'it returns false'. Refute it at one input. -/
def lawS4048BRoundTripWrong : ChangeSpec := { name := "lawS4048BRoundTrip", vars := ["example.com/bloomring/bloomring/journal.errBadCreate", "example.com/bloomring/bloomring/journal.errBadWindow"], fn := fun _ => fun
  | [d1, d2, d3, d4, d5, d6, d7, d8, d9, g1, g2] => { results := [.lit (.bool false)], args := [d1, d2, d3, d4, d5, d6, d7, d8, d9], vars := [g1, g2] }
  | _ => none }
def LawS4048BRoundTripWrongFalsely : Prop := lawS4048BRoundTripRow.holds Ybad.pinned (OpenSpec.ofChange lawS4048BRoundTripWrong)

/-- 'journal.LawS4048BRefusals': WHATEVER THE INPUT: true; the input reads as it did. -/
def lawS4048BRefusalsSpec : ChangeSpec := { name := "lawS4048BRefusals", vars := ["example.com/bloomring/bloomring/journal.errBadCreate", "example.com/bloomring/bloomring/journal.errBadWindow"], fn := fun _ => fun
  | [d1, d2, d3, d4, d5, d6, d7, d8, d9, d10, g1, g2] => { results := [.lit (.bool true)], args := [d1, d2, d3, d4, d5, d6, d7, d8, d9, d10], vars := [g1, g2] }
  | _ => none }
def lawS4048BRefusalsRow : OpenClaim := { program := "ybulkceusdoor", sum := "0f96aa8bbbaabe39e58282ccb38ce95a7ff281646fce8f2e89618236addc1b36", func := "example.com/bloomring/bloomring/journal.LawS4048BRefusals", spec := "lawS4048BRefusals", inPlace := ["math.Float64frombits"], named := ["example.com/bloomring/bloomring/journal.errBadCreate", "example.com/bloomring/bloomring/journal.errBadWindow", "encoding/binary.LittleEndian"], ifaces := true, apart := false, laid := [("example.com/bloomring/bloomring/journal.errBadCreate", laid_example_com_bloomring_bloomring_journal_errBadCreate), ("example.com/bloomring/bloomring/journal.errBadWindow", laid_example_com_bloomring_bloomring_journal_errBadWindow)] }
def LawS4048BRefusalsSaid : Prop := lawS4048BRefusalsRow.holds Ybad.pinned (OpenSpec.ofChange lawS4048BRefusalsSpec)

/-- ITS FALSE NEIGHBOUR: 'it returns false'. Refute it at one input. -/
def lawS4048BRefusalsWrong : ChangeSpec := { name := "lawS4048BRefusals", vars := ["example.com/bloomring/bloomring/journal.errBadCreate", "example.com/bloomring/bloomring/journal.errBadWindow"], fn := fun _ => fun
  | [d1, d2, d3, d4, d5, d6, d7, d8, d9, d10, g1, g2] => { results := [.lit (.bool false)], args := [d1, d2, d3, d4, d5, d6, d7, d8, d9, d10], vars := [g1, g2] }
  | _ => none }
def LawS4048BRefusalsWrongFalsely : Prop := lawS4048BRefusalsRow.holds Ybad.pinned (OpenSpec.ofChange lawS4048BRefusalsWrong)

end Rows
end Go.Proofs.YbulkceusDoor
