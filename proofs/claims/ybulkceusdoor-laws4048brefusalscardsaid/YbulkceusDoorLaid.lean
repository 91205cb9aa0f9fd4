/-
  DERIVED. WHAT THE ROWS' LISTED VARIABLES GIVE THE WALKS; A WORLD THAT MEETS THE LIST; THE VARIABLES READ AGAIN.
-/
import Derived.Test.YbulkceusDoorRows
import Derived.ProofKit
import Derived.LaidMore
import Derived.OpenShut
import Derived.Stop.Joined
import Derived.Stop.LaidErr
namespace Go.Proofs.YbulkceusDoor
open Go.ChangeShapes Go.WideShapes Go.ChangeAt Go.WideMaps Go.WideElems Go.RowKit

theorem own : ownKnob Ybad.prog.godebug = none := by kernel_rfl
theorem laidOut : laidOutB Ybad.prog = true := by kernel_rfl
theorem gC : Ybad.prog.globalNamed "example.com/bloomring/bloomring/journal.errBadCreate" = some 0 := by kernel_rfl
theorem gW : Ybad.prog.globalNamed "example.com/bloomring/bloomring/journal.errBadWindow" = some 1 := by kernel_rfl
theorem tC : (Ybad.prog.globals[0]?).map (·.type) = some 29 := by kernel_rfl
theorem tW : (Ybad.prog.globals[1]?).map (·.type) = some 29 := by kernel_rfl
theorem cells67 : Ybad.prog.cellsOf 67 = 1 := by kernel_rfl
theorem cells9 : Ybad.prog.cellsOf 9 = 1 := by kernel_rfl
theorem star : "*" ++ "errors.errorString" = "*errors.errorString" := by decide

theorem row46 (u : TypeId) (h : Ybad.prog.typeName? 3 u = some "*errors.errorString") : u = 46 :=
  typeName_ptr_named (nm := "errors.errorString") (by rw [star]; kernel_rfl) (by kernel_rfl) (by decide) u (by rw [star]; exact h)

/-- Both rows list the same two variables. -/
abbrev laidB : List (String × DataW Unit) := Rows.lawS4048BRefusalsRow.laid

/-- The door's own heap meets the condition. -/
theorem door_met (os : Os) (args : Array Value) : laidMetH Ybad.prog laidB ((World.doorLaid Ybad.prog 47 os).forCall (fun _ _ => 0) ⟨#[], args, []⟩).memory :=
  laidMetH_of_parts3 (fuel := 8) (laidMet_of_run' 8 (by kernel_rfl) (by kernel_rfl)) (by kernel_rfl) (by kernel_rfl)

/-- WHAT THE CONDITION GIVES THE WALKS. -/
theorem of_laid {W : World} (h : laidMetH Ybad.prog laidB W) : ∃ a0 a1 : Addr,
    W.var? Ybad.prog "example.com/bloomring/bloomring/journal.errBadCreate" = some #[.iface 46 (.pointer (some a0))] ∧
    W.var? Ybad.prog "example.com/bloomring/bloomring/journal.errBadWindow" = some #[.iface 46 (.pointer (some a1))] := by
  rw [MakeChecks.laidMetH_plain _ _ _ (by kernel_rfl)] at h
  obtain ⟨a0, _, hv0, _⟩ := laid_sentinel h gC tC Ybad.underlying29 row46 Ybad.underlying46 Ybad.underlying67 rfl rfl Ybad.underlying9 cells67 cells9
  obtain ⟨a1, _, hv1, _⟩ := laid_sentinel h.tail gW tW Ybad.underlying29 row46 Ybad.underlying46 Ybad.underlying67 rfl rfl Ybad.underlying9 cells67 cells9
  exact ⟨a0, a1, hv0, hv1⟩

/-- The two variables, each read as a token. -/
theorem vars_read {H : Type} (enc : TypeId × Value → H) {W : World} {x0 x1 : Value} (h0 : W.var? Ybad.prog "example.com/bloomring/bloomring/journal.errBadCreate" = some #[x0]) (h1 : W.var? Ybad.prog "example.com/bloomring/bloomring/journal.errBadWindow" = some #[x1]) (i0 : IsIface x0) (i1 : IsIface x1) (sp : Nat → Bool) :
    DataW.TrodVars enc Ybad.prog W sp ["example.com/bloomring/bloomring/journal.errBadCreate", "example.com/bloomring/bloomring/journal.errBadWindow"] [tok enc x0, tok enc x1] [.cell 0 0, .cell 1 0] :=
  ⟨0, 29, #[x0], 1, [], [.cell 1 0], gC, tC, h0, trod_held Ybad.underlying29 i0 0, ⟨1, 29, #[x1], 1, [], [], gW, tW, h1, trod_held Ybad.underlying29 i1 0, rfl, rfl⟩, rfl⟩

end Go.Proofs.YbulkceusDoor
