/-
  DERIVED. GIVEN WITH THE SEED: THE CARDS: each row of YbulkcetcDoorRows.lean that lists a variable, with what it lists TIED to the program's text (the seventh form; the later family's looks); each row that meets fmt, with fmt's text TOLD by the authors' own Lean function (tested against real Go, not proved from fmt's source: count such statements apart). THE CARD IS WHAT COUNTS. Prove the row's statement (the work); the ties are given (YbulkcetcDoorTie.lean); close each card by the builder's one call (the guide's Derived/Test/ToyasCard.lean, 'card_holds'). Laid BY PROGRAM, IN A SANDBOX (cutbox-door.mjs). By AI agents, Wed Nov 11 2026. No macro, syntax, notation, axiom, sorry.
-/
import Derived.Test.YbulkcetcDoorRows
import GoSem.ClaimSeven
namespace Go.Proofs.YbulkcetcDoor
namespace Rows

/-- THE TIED CARD OF 'proxy.LawS4045AModel'. -/
def lawS4045AModelCard : Claim7 := { stood := { row := lawS4045AModelRow, standIns := [], harness := (true, "22a318d2ca81fea05d196a8efde9ef9bd67f7f135c406e231108f6e3c13d4a03"), looks := true }, kinds := [], alts := [], laidByText := true, laidKinds := [.data, .data, .data, .data, .pinned, .pinned], laidTests := true, laidLooks := .later }
def LawS4045AModelCardSaid : Prop := Claim7.holds Ybad.pinned (.plain (OpenSpec.ofChange lawS4045AModelSpec)) lawS4045AModelCard

/-- THE TIED CARD OF 'proxy.LawS4045AVariants'. -/
def lawS4045AVariantsCard : Claim7 := { stood := { row := lawS4045AVariantsRow, standIns := [], harness := (true, "22a318d2ca81fea05d196a8efde9ef9bd67f7f135c406e231108f6e3c13d4a03"), looks := true }, kinds := [], alts := [], laidByText := true, laidKinds := [.data, .data, .data, .data, .pinned, .pinned], laidTests := true, laidLooks := .later }
def LawS4045AVariantsCardSaid : Prop := Claim7.holds Ybad.pinned (.plain (OpenSpec.ofChange lawS4045AVariantsSpec)) lawS4045AVariantsCard

/-- THE TIED CARD OF 'dialog.LawS4045BName'. -/
def lawS4045BNameCard : Claim7 := { stood := { row := lawS4045BNameRow, standIns := [], harness := (true, "22a318d2ca81fea05d196a8efde9ef9bd67f7f135c406e231108f6e3c13d4a03"), looks := true }, kinds := [], alts := [], laidByText := true, laidKinds := [.data, .data, .data, .data], laidTests := true, laidLooks := .later }
def LawS4045BNameCardSaid : Prop := Claim7.holds Ybad.pinned (.plain (OpenSpec.ofChange lawS4045BNameSpec)) lawS4045BNameCard

/-- THE TIED CARD OF 'message.LawS4045CModel'. -/
def lawS4045CModelCard : Claim7 := { stood := { row := lawS4045CModelRow, standIns := [], harness := (true, "22a318d2ca81fea05d196a8efde9ef9bd67f7f135c406e231108f6e3c13d4a03"), looks := true }, kinds := [], alts := [], laidByText := true, laidKinds := [.data, .data, .data, .data, .sentinel, .sentinel, .pinned], laidTests := true, laidLooks := .later }
def LawS4045CModelCardSaid : Prop := Claim7.holds Ybad.pinned (.plain (OpenSpec.ofChange lawS4045CModelSpec)) lawS4045CModelCard

/-- THE TIED CARD OF 'message.LawS4045CBuilt'. -/
def lawS4045CBuiltCard : Claim7 := { stood := { row := lawS4045CBuiltRow, standIns := [], harness := (true, "22a318d2ca81fea05d196a8efde9ef9bd67f7f135c406e231108f6e3c13d4a03"), looks := true }, kinds := [], alts := [], laidByText := true, laidKinds := [.data, .data, .data, .data, .sentinel, .sentinel, .pinned], laidTests := true, laidLooks := .later }
def LawS4045CBuiltCardSaid : Prop := Claim7.holds Ybad.pinned (.plain (OpenSpec.ofChange lawS4045CBuiltSpec)) lawS4045CBuiltCard
end Rows
end Go.Proofs.YbulkcetcDoor
