/-
  DERIVED. dialog.LawS4045BName: WHAT THE ROW's LISTED VARIABLES GIVE THE WALKS, AND A WORLD THAT MEETS THE LIST.
-/
import Derived.Test.YbulkcetcDoorRows
import Derived.Test.YbulkcetcDoorNameWalks
import Derived.ProofKit
import Derived.LaidMore
import Derived.OpenShut
import Derived.Stop.Joined
import Derived.Lib.LaidTab
namespace Go.Proofs.YbulkcetcDoor
open Go.ChangeShapes Go.WideShapes Go.ChangeAt Go.WideMaps Go.WideElems Go.RowKit

theorem own : ownKnob Ybad.prog.godebug = none := by kernel_rfl
theorem laidOut : laidOutB Ybad.prog = true := by kernel_rfl
/-- Two of the listed names, off the given row. -/
abbrev nPow : String := Rows.lawS4045BNameRow.named.getD 1 default
abbrev nNames : String := Rows.lawS4045BNameRow.named.getD 0 default
theorem gPow : Ybad.prog.globalNamed nPow = some 10 := by kernel_rfl
theorem tPow : (Ybad.prog.globals[10]?).map (·.type) = some 108 := by kernel_rfl
theorem cells42 : Ybad.prog.cellsOf 42 = 1 := by kernel_rfl
theorem cells108 : Ybad.prog.cellsOf 108 = 20 := by kernel_rfl
theorem gNames : Ybad.prog.globalNamed nNames = some 1 := by kernel_rfl
theorem tNames : (Ybad.prog.globals[1]?).map (·.type) = some 44 := by kernel_rfl
theorem cells44 : Ybad.prog.cellsOf 44 = 4 := by kernel_rfl
theorem cells9 : Ybad.prog.cellsOf 9 = 1 := by kernel_rfl

abbrev laidB : List (String × DataW Unit) := Rows.lawS4045BNameRow.laid

/-- The door's own heap meets the condition. -/
theorem door_met (os : Os) (args : Array Value) : laidMetH Ybad.prog laidB ((World.doorLaid Ybad.prog 186 os).forCall (fun _ _ => 0) ⟨#[], args, []⟩).memory :=
  laidMetH_of_parts3 (fuel := 8) (laidMet_of_run' 8 (by kernel_rfl) (by kernel_rfl)) (by kernel_rfl) (by kernel_rfl)

theorem pow_datum : (Rows.laid_internal_strconv_uint64pow10 : DataW Unit) = Lib.tabData .u64 Lib.pow10Tab := by kernel_rfl

theorem four_of {α : Type} {l : List α} (h : l.length = 4) : ∃ a b c d, l = [a, b, c, d] := by
  match l, h with
  | [a, b, c, d], _ => exact ⟨a, b, c, d, rfl⟩

theorem string_is {s : ByteArray} {l : List UInt8} (h : s.data.toList = l) : s = ⟨l.toArray⟩ := by
  cases s
  subst h
  rfl

/-- One name: a cell that reads as these bytes. -/
theorem name_cell {W : World} {fuel : Nat} {c : Value} {l : List UInt8} {q : List MemPlace} {enc : TypeId × Value → Unit}
    (h : DataW.trod enc Ybad.prog W 0 (fun _ => true) false fuel 9 [c] = some (.lit (.string l), q)) : c = .string ⟨l.toArray⟩ := by
  obtain ⟨s, e1, e2, _⟩ := DataW.trod_string Ybad.underlying9 h
  simp only [List.cons.injEq, and_true] at e1
  simp only [Prod.mk.injEq, DataW.lit.injEq, Lit.string.injEq] at e2
  rw [e1, string_is e2.1.symm]

/-- An array of four strings that reads as these bytes. -/
theorem names_cells {W : World} {fuel : Nat} {cs : Array Value} {p : List MemPlace} {enc : TypeId × Value → Unit}
    (h : DataW.trod enc Ybad.prog W 0 (fun _ => true) false fuel 44 cs.toList = some (Rows.laid_example_com_ringback_ringback_pkg_dialog_stateNames, p)) :
    cs = #[.string nm0, .string nm1, .string nm2, .string nm3] := by
  obtain ⟨xs, m1, rfl, hx1, hlen, hn3, hel⟩ := DataW.trod_array Ybad.underlying44 h
  rw [cells44] at hlen
  rw [cells9] at hel
  obtain ⟨l⟩ := cs
  obtain ⟨c0, c1, c2, c3, rfl⟩ := four_of hlen
  obtain ⟨⟨x0, q0⟩, ⟨x1, q1⟩, ⟨x2, q2⟩, ⟨x3, q3⟩, rfl⟩ := four_of hn3
  simp only [Rows.laid_example_com_ringback_ringback_pkg_dialog_stateNames, Prod.mk.injEq, DataW.agg.injEq, List.map_cons, List.map_nil, List.cons.injEq, and_true] at hx1
  obtain ⟨⟨rfl, rfl, rfl, rfl⟩, _⟩ := hx1
  have h0 := name_cell (hel 0 (by decide))
  have h1 := name_cell (hel 1 (by decide))
  have h2 := name_cell (hel 2 (by decide))
  have h3 := name_cell (hel 3 (by decide))
  subst h0 h1 h2 h3
  rfl

/-- WHAT THE CONDITION GIVES THE WALKS. -/
theorem of_laid {W : World} (h : laidMetH Ybad.prog laidB W) : Lib.TabIs Ybad.prog W nPow .u64 Lib.pow10Tab ∧ W.var? Ybad.prog nNames = some #[.string nm0, .string nm1, .string nm2, .string nm3] := by
  rw [MakeChecks.laidMetH_plain _ _ _ (by kernel_rfl)] at h
  obtain ⟨ps, ⟨g0, t0, cs0, f0, p0, q0, hg0, ht0, hv0, hd0, ⟨g1, t1, cs1, f1, p1, q1, hg1, ht1, hv1, hd1, ⟨g2, t2, cs2, f2, p2, q2, hg2, ht2, hv2, hd2, ⟨g3, t3, cs3, f3, p3, q3, hg3, ht3, hv3, hd3, _, _⟩, _⟩, _⟩, _⟩, _, _⟩ := h
  obtain rfl := Option.some.inj (gPow.symm.trans hg2)
  obtain rfl := Option.some.inj (gNames.symm.trans hg3)
  obtain rfl := Option.some.inj (tPow.symm.trans ht2)
  obtain rfl := Option.some.inj (tNames.symm.trans ht3)
  refine ⟨?_, ?_⟩
  · rw [pow_datum] at hd2
    unfold Lib.TabIs
    rw [show W.var? Ybad.prog nPow = some cs2 from hv2, ← Lib.cells_of_tab Ybad.underlying108 Ybad.underlying42 cells42 cells108 hd2]
  · rw [show W.var? Ybad.prog nNames = some cs3 from hv3, names_cells hd3]

end Go.Proofs.YbulkcetcDoor
