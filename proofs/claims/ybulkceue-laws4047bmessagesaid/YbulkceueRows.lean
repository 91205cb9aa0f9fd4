/-
  No cell of these rows narrows 'for every input' (looked for: loops, veiled, ifaces, maps, wideKeys, modest, calm, conditions, laid).
  DERIVED. THE GIVEN ROWS OF THIS SEAT. 1 by the template 'for every input the law returns true; each argument reads behind the call as it read before'; 0 by the template 'total and deterministic' (their statements: YbulkceueTotals.lean).
  GIVEN WITH THE SEED: the statements are not yours to turn. If you find one false, say at which input.
  Laid BY PROGRAM, IN A SANDBOX (cutbox-rows.mjs): the forced cells as the released guide's own fill.sh prints them over the translation 6c12b59030a27352… (all of the seat's roots in one cut). By AI agents, Wed Nov 11 2026. No macro, syntax, notation, axiom, sorry.
-/
import Derived.Test.YbulkceueChecked
import GoSem.Claim
import GoSem.ClaimJoined
import GoSem.ClaimMapViews
import Derived.JoinedTies
import Derived.KernelRfl
namespace Go.Proofs.Ybulkceue
/- THE CELL 'sum', in the pinned program and in every row, IS THE sha256 OF THE DUMP (.gsa) THAT YbulkceueProg.lean LOADS. Nothing in Lean hashes anything: it is a label: what it is worth is what the hold of that sum in a sandbox is worth. -/
noncomputable def Yba.pinned : Pinned := { name := "ybulkceue", sum := "6c12b59030a27352bff9436b28762691341b6a8b3e59f260c9cb87fe9d2aeed3", checked := Yba.checked }
namespace Rows
def none {H : Type} : Left H := { results := [], args := [] }

/-- 'protocol.LawS4047BMessage': WHATEVER THE INPUT: true; the input reads as it did. -/
def lawS4047BMessageSpec : ChangeSpec := { name := "lawS4047BMessage", fn := fun _ => fun
  | [d1, d2, d3, d4, d5, d6, d7, d8, d9, d10] => { results := [.lit (.bool true)], args := [d1, d2, d3, d4, d5, d6, d7, d8, d9, d10] }
  | _ => none }
def lawS4047BMessageRow : OpenClaim := { program := "ybulkceue", sum := "6c12b59030a27352bff9436b28762691341b6a8b3e59f260c9cb87fe9d2aeed3", func := "example.com/tocsin/tocsin/internal/protocol.LawS4047BMessage", spec := "lawS4047BMessage", unfollowed := true, recurses := true, named := ["encoding/binary.BigEndian"], apart := false }
def LawS4047BMessageSaid : Prop := lawS4047BMessageRow.holds Yba.pinned (OpenSpec.ofChange lawS4047BMessageSpec)

/-- ITS FALSE NEIGHBOUR: 'it returns false'. Refute it at one input. -/
def lawS4047BMessageWrong : ChangeSpec := { name := "lawS4047BMessage", fn := fun _ => fun
  | [d1, d2, d3, d4, d5, d6, d7, d8, d9, d10] => { results := [.lit (.bool false)], args := [d1, d2, d3, d4, d5, d6, d7, d8, d9, d10] }
  | _ => none }
def LawS4047BMessageWrongFalsely : Prop := lawS4047BMessageRow.holds Yba.pinned (OpenSpec.ofChange lawS4047BMessageWrong)

end Rows
end Go.Proofs.Ybulkceue
