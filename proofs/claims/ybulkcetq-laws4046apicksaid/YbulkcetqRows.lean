/-
  No cell of these rows narrows 'for every input' (looked for: loops, veiled, ifaces, maps, wideKeys, modest, calm, conditions, laid).
  DERIVED. THE GIVEN ROWS OF THIS SEAT. 2 by the template 'for every input the law returns true; each argument reads behind the call as it read before'; 0 by the template 'total and deterministic' (their statements: YbulkcetqTotals.lean).
  GIVEN WITH THE SEED: the statements are not yours to turn. If you find one false, say at which input.
  Laid BY PROGRAM, IN A SANDBOX (cutbox-rows.mjs): the forced cells as the released guide's own fill.sh prints them over the translation c504209bf5d438a9… (all of the seat's roots in one cut). By AI agents, Wed Nov 11 2026. No macro, syntax, notation, axiom, sorry.
-/
import Derived.Test.YbulkcetqChecked
import GoSem.Claim
import GoSem.ClaimJoined
import GoSem.ClaimMapViews
import Derived.JoinedTies
import Derived.KernelRfl
namespace Go.Proofs.Ybulkcetq
/- THE CELL 'sum', in the pinned program and in every row, IS THE sha256 OF THE DUMP (.gsa) THAT YbulkcetqProg.lean LOADS. Nothing in Lean hashes anything: it is a label: what it is worth is what the hold of that sum in a sandbox is worth. -/
noncomputable def Yba.pinned : Pinned := { name := "ybulkcetq", sum := "c504209bf5d438a9d1afef2ab7e4fdb360bb11bf8027720c15d1c371864ac977", checked := Yba.checked }
namespace Rows
def none {H : Type} : Left H := { results := [], args := [] }

/-- 'backup.LawS4046APick': WHATEVER THE INPUT: true; the input reads as it did. -/
def lawS4046APickSpec : ChangeSpec := { name := "lawS4046APick", fn := fun _ => fun
  | [d1, d2, d3] => { results := [.lit (.bool true)], args := [d1, d2, d3] }
  | _ => none }
def lawS4046APickRow : OpenClaim := { program := "ybulkcetq", sum := "c504209bf5d438a9d1afef2ab7e4fdb360bb11bf8027720c15d1c371864ac977", func := "example.com/ringwell/ringwell/backup.LawS4046APick", spec := "lawS4046APick", plainKeys := false, apart := false }
def LawS4046APickSaid : Prop := lawS4046APickRow.holds Yba.pinned (OpenSpec.ofChange lawS4046APickSpec)

/-- ITS FALSE NEIGHBOUR: 'it returns false'. Refute it at one input. -/
def lawS4046APickWrong : ChangeSpec := { name := "lawS4046APick", fn := fun _ => fun
  | [d1, d2, d3] => { results := [.lit (.bool false)], args := [d1, d2, d3] }
  | _ => none }
def LawS4046APickWrongFalsely : Prop := lawS4046APickRow.holds Yba.pinned (OpenSpec.ofChange lawS4046APickWrong)

/-- 'chunk.LawS4046CModel': WHATEVER THE INPUT: true; the input reads as it did. -/
def lawS4046CModelSpec : ChangeSpec := { name := "lawS4046CModel", fn := fun _ => fun
  | [d1, d2, d3, d4] => { results := [.lit (.bool true)], args := [d1, d2, d3, d4] }
  | _ => none }
def lawS4046CModelRow : OpenClaim := { program := "ybulkcetq", sum := "c504209bf5d438a9d1afef2ab7e4fdb360bb11bf8027720c15d1c371864ac977", func := "example.com/ringwell/ringwell/chunk.LawS4046CModel", spec := "lawS4046CModel", plainKeys := false, apart := false }
def LawS4046CModelSaid : Prop := lawS4046CModelRow.holds Yba.pinned (OpenSpec.ofChange lawS4046CModelSpec)

/-- ITS FALSE NEIGHBOUR: 'it returns false'. Refute it at one input. -/
def lawS4046CModelWrong : ChangeSpec := { name := "lawS4046CModel", fn := fun _ => fun
  | [d1, d2, d3, d4] => { results := [.lit (.bool false)], args := [d1, d2, d3, d4] }
  | _ => none }
def LawS4046CModelWrongFalsely : Prop := lawS4046CModelRow.holds Yba.pinned (OpenSpec.ofChange lawS4046CModelWrong)

end Rows
end Go.Proofs.Ybulkcetq
