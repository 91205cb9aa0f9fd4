/-
  DERIVED. WHAT THE ROWS' LISTED VARIABLES GIVE THE WALKS; A WORLD THAT MEETS THE LIST; THE VARIABLES READ AGAIN.
-/
import Derived.Test.YbulkceusDoorRows
import Derived.ProofKit
import Derived.LaidMore
import Derived.OpenShut
import Derived.Stop.Joined
import Derived.Stop.LaidErr
namespace Go.Proofs.YbulkceusDoor
open Go.ChangeShapes Go.WideShapes Go.ChangeAt Go.WideMaps Go.WideElems Go.RowKit

theorem own : ownKnob Ybad.prog.godebug = none := by kernel_rfl
theorem laidOut : laidOutB Ybad.prog = true := by kernel_rfl
/-- The names of the two variables, off the given rows. -/
abbrev nC : String := Rows.lawS4048BRefusalsSpec.vars.getD 0 default
abbrev nW : String := Rows.lawS4048BRefusalsSpec.vars.getD 1 default

theorem gC : Ybad.prog.globalNamed nC = some 0 := by kernel_rfl
theorem gW : Ybad.prog.globalNamed nW = some 1 := by kernel_rfl
theorem tC : (Ybad.prog.globals[0]?).map (·.type) = some 29 := by kernel_rfl
theorem tW : (Ybad.prog.globals[1]?).map (·.type) = some 29 := by kernel_rfl
theorem cells67 : Ybad.prog.cellsOf 67 = 1 := by kernel_rfl
theorem cells9 : Ybad.prog.cellsOf 9 = 1 := by kernel_rfl
/-- Both rows list the same two variables. -/
abbrev laidB : List (String × DataW Unit) := Rows.lawS4048BRefusalsRow.laid

/-- The door's own heap meets the condition. -/
theorem door_met (os : Os) (args : Array Value) : laidMetH Ybad.prog laidB ((World.doorLaid Ybad.prog 47 os).forCall (fun _ _ => 0) ⟨#[], args, []⟩).memory :=
  laidMetH_of_parts3 (fuel := 8) (laidMet_of_run' 8 (by kernel_rfl) (by kernel_rfl)) (by kernel_rfl) (by kernel_rfl)

/-- WHAT THE CONDITION GIVES THE WALKS. -/
theorem of_laid {W : World} (h : laidMetH Ybad.prog laidB W) : ∃ a0 a1 : Addr,
    W.var? Ybad.prog nC = some #[.iface 46 (.pointer (some a0))] ∧
    W.var? Ybad.prog nW = some #[.iface 46 (.pointer (some a1))] := by
  rw [MakeChecks.laidMetH_plain _ _ _ (by kernel_rfl)] at h
  obtain ⟨a0, _, hv0, _⟩ := laid_sentinel h gC tC Ybad.underlying29 (fun u hu => typeName_ptr_named (nm := "errors.errorString") (tp := 46) (by kernel_rfl) (by kernel_rfl) (by decide) u (hu.trans (congrArg some (by decide)))) Ybad.underlying46 Ybad.underlying67 rfl rfl Ybad.underlying9 cells67 cells9
  obtain ⟨a1, _, hv1, _⟩ := laid_sentinel h.tail gW tW Ybad.underlying29 (fun u hu => typeName_ptr_named (nm := "errors.errorString") (tp := 46) (by kernel_rfl) (by kernel_rfl) (by decide) u (hu.trans (congrArg some (by decide)))) Ybad.underlying46 Ybad.underlying67 rfl rfl Ybad.underlying9 cells67 cells9
  exact ⟨a0, a1, hv0, hv1⟩

/-- The two variables, each read as a token. -/
theorem vars_read {H : Type} (enc : TypeId × Value → H) {W : World} {x0 x1 : Value} (h0 : W.var? Ybad.prog nC = some #[x0]) (h1 : W.var? Ybad.prog nW = some #[x1]) (i0 : IsIface x0) (i1 : IsIface x1) (sp : Nat → Bool) :
    DataW.TrodVars enc Ybad.prog W sp [nC, nW] [tok enc x0, tok enc x1] [.cell 0 0, .cell 1 0] :=
  ⟨0, 29, #[x0], 1, [], [.cell 1 0], gC, tC, h0, trod_held Ybad.underlying29 i0 0, ⟨1, 29, #[x1], 1, [], [], gW, tW, h1, trod_held Ybad.underlying29 i1 0, rfl, rfl⟩, rfl⟩

end Go.Proofs.YbulkceusDoor
