/-
  DERIVED. protocol.LawS4047BMessage: readPiece AND WHAT IT CALLS.
-/
import Derived.Test.YbulkceueWalks
import Derived.Deep.MidRow
import Derived.Deep.DeepCutAuto
import Derived.Deep.CutBlock
import Derived.Deep.RegionWith
import Derived.Deep.RegionHeld3
namespace Go.Proofs.Ybulkceue
open Go.RowKit

/-- New blocks, and the reader's bytes set to none. -/
def Set0 (w : World) (R : Nat) (w' : World) : Prop := ∃ w1 ao n, Below w.heap.size w w1 ∧ w' = w1.setCell ⟨R, 0, none⟩ (.slice ao 0 n)

theorem list8 {α : Type} (l : List α) (h : l.length = 8) : ∃ a0 a1 a2 a3 a4 a5 a6 a7, l = [a0, a1, a2, a3, a4, a5, a6, a7] := by
  match l, h with
  | [a0, a1, a2, a3, a4, a5, a6, a7], _ => exact ⟨_, _, _, _, _, _, _, _, rfl⟩

set_option maxRecDepth 100000 in
theorem check_any (w : World) (R : Nat) (ok c : Bool) (hc : w.cell? ⟨R, 1, none⟩ = some (.bool ok)) (hf : w.frozen? ⟨R, 1, none⟩ = false) :
    Calls Yba.prog 18 #[.pointer (some ⟨R, 0, none⟩), .bool c] w fun e w' => (∃ v, e = .returned v) ∧ w' = w.setCell ⟨R, 1, none⟩ (.bool (ok && c)) := by
  cases ok
  all_goals
    go_enter Yba.func18, Yba.ntmps18
    go_wp2
    refine bodyPost_end (results_none rfl _ _ _) rfl ?_
    exact ⟨⟨_, rfl⟩, rfl⟩

set_option maxRecDepth 100000 in
theorem rest_any (w : World) (R : Nat) (v : Value) (ao : Option Addr) (n cp : Nat) (hv : v = .slice ao n cp) (hc : w.cell? ⟨R, 0, none⟩ = some v) (hf : w.frozen? ⟨R, 0, none⟩ = false) :
    Calls Yba.prog 20 #[.pointer (some ⟨R, 0, none⟩)] w fun e w' => e = .returned v ∧ w' = w.setCell ⟨R, 0, none⟩ (.slice none 0 0) := by
  subst hv
  go_enter Yba.func20, Yba.ntmps20
  go_wp2
  go_ret
  exact ⟨rfl, rfl⟩

theorem be_read (w : World) (b o cp y : Nat) (hy : y < 18446744073709551616) (hcell : ∀ j u, (Lib.byteCells (Lib.beBytes 8 y))[j]? = some u → w.cell? ⟨b, o + j, none⟩ = some u) :
    Calls Yba.prog 21 #[.agg #[], .slice (some ⟨b, o, none⟩) 8 cp] w fun e w' => e = .returned (.int .u64 (y : Int)) ∧ Below w.heap.size w w' := by
  obtain ⟨b0, b1, b2, b3, b4, b5, b6, b7, hbs⟩ := list8 (Lib.beBytes 8 y) (Lib.beBytes_length 8 y)
  have hN : Lib.beNat (Lib.beBytes 8 y) = y := Lib.beNat_beBytes 8 y (by simpa using hy)
  rw [hbs] at hN hcell
  have h := Yba.binary_BE_Uint64 b o 8 cp b0 b1 b2 b3 b4 b5 b6 b7 w (Nat.le_refl _) (hcell 0 _ rfl) (hcell 1 _ rfl) (hcell 2 _ rfl) (hcell 3 _ rfl) (hcell 4 _ rfl) (hcell 5 _ rfl) (hcell 6 _ rfl) (hcell 7 _ rfl)
  rw [hN] at h
  exact h

set_option maxRecDepth 100000 in
set_option maxHeartbeats 800000 in
theorem u64_any (w : World) (R b o cp y : Nat) (_hcp : 8 ≤ cp) (_hcm : cp ≤ maxLen) (hy : y < 18446744073709551616) (hc : w.cell? ⟨R, 0, none⟩ = some (.slice (some ⟨b, o, none⟩) 8 cp)) (hf : w.frozen? ⟨R, 0, none⟩ = false)
    (hcell : ∀ j u, (Lib.byteCells (Lib.beBytes 8 y))[j]? = some u → w.cell? ⟨b, o + j, none⟩ = some u) :
    Calls Yba.prog 19 #[.pointer (some ⟨R, 0, none⟩)] w fun e w' => e = .returned (.int .u64 (y : Int)) ∧ Set0 w R w' := by
  have HU := (show Hid (∀ w', Below w.heap.size w w' → Calls Yba.prog 21 #[.agg #[], .slice (some ⟨b, o, none⟩) 8 cp] w' fun e w'' => e = .returned (.int .u64 (y : Int)) ∧ Below w'.heap.size w' w'') from fun w' hw' => be_read w' b o cp y hy (fun j u hj => (hw'.cell (p := ⟨b, o + j, none⟩) (World.block_lt_of_cell? _ _ (hcell j u hj))).trans (hcell j u hj)))
  have hRlt := World.block_lt_of_cell? _ _ hc
  have HU9 := (show Hid (Calls Yba.prog 21 #[.agg #[], .slice (some ⟨b, o, none⟩) 8 cp] w.drew fun e w'' => e = .returned (.int .u64 (y : Int)) ∧ Below w.drew.heap.size w.drew w'') from HU.out w.drew (Below.refl _ _).drew)
  clear hcell HU
  go_enter Yba.func19, Yba.ntmps19
  go_wp2_with fail
  go_region_with (first | (refine HU9.out.mono ?_; rintro e w9 ⟨rfl, hb9⟩; have hb9' : Below w.heap.size w w9 := (Below.refl _ _).drew.trans hb9; clear hb9; have hc9 := (hb9'.cell (p := ⟨R, 0, none⟩) hRlt).trans hc; have hf9 := (hb9'.frozen (p := ⟨R, 0, none⟩) hRlt).trans hf))
  go_wp2_with fail
  all_goals
    go_ret
    exact ⟨rfl, show Set0 _ _ _ from ⟨w9, _, _, hb9', rfl⟩⟩
end Go.Proofs.Ybulkceue
