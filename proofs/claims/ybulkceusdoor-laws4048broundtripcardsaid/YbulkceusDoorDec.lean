/-
  DERIVED. journal.decodeConfig: THE WALKS.
-/
import Derived.Test.YbulkceusDoorProg
import Derived.Test.YbulkceusDoorShelf
import Derived.Test.YbulkceusDoorPlain
import Derived.WalkKit
import Derived.WalkSpells
import Derived.WalkLawsBesides
import Derived.Deep.DeepCutAuto
import Derived.Deep.CutBlock
namespace Go.Proofs.YbulkceusDoor
open Go.RowKit

/-- These bytes lie there. -/
def Bytes (w : World) (g o : Nat) (l : List UInt8) : Prop := ∀ j (hj : j < l.length), w.cell? ⟨g, o + j, none⟩ = some (.int .u8 (l[j]).toNat)

theorem varint_at {w : World} {g o n c : Nat} {l : List UInt8} {v m : Int} (hB : Bytes w g o l) (hl : l.length = n) (hv : Lib.varintDec l = (v, m)) :
    Calls Ybad.prog 11 #[.slice (some ⟨g, o, none⟩) n c] w fun e w' => e = .returned (.tuple #[.int .i64 v, .int .i64 m]) ∧ w' = w := by
  have h := Ybad.binary_Varint g o n c l w hl hB
  rw [hv] at h
  exact h

theorem uvarint_at {w : World} {g o n c : Nat} {l : List UInt8} {v : Nat} {m : Int} (hB : Bytes w g o l) (hl : l.length = n) (hv : Lib.uvarintDec l = (v, m)) :
    Calls Ybad.prog 14 #[.slice (some ⟨g, o, none⟩) n c] w fun e w' => e = .returned (.tuple #[.int .u64 v, .int .i64 m]) ∧ w' = w := by
  have h := Ybad.binary_Uvarint g o n c l w hl hB
  rw [hv] at h
  exact h

/-- The seven cells of the configuration. -/
structure Cfg (w : World) (C : Nat) (c0 c1 c2 c3 c4 c5 c6 : Value) : Prop where
  a0 : w.cell? ⟨C, 0, none⟩ = some c0
  a1 : w.cell? ⟨C, 1, none⟩ = some c1
  a2 : w.cell? ⟨C, 2, none⟩ = some c2
  a3 : w.cell? ⟨C, 3, none⟩ = some c3
  a4 : w.cell? ⟨C, 4, none⟩ = some c4
  a5 : w.cell? ⟨C, 5, none⟩ = some c5
  a6 : w.cell? ⟨C, 6, none⟩ = some c6
  fz : ∀ i, i < 7 → w.frozen? ⟨C, i, none⟩ = false

theorem other {w : World} {C i j : Nat} {v : Value} (h : i ≠ j) : (w.setCell ⟨C, i, none⟩ v).cell? ⟨C, j, none⟩ = w.cell? ⟨C, j, none⟩ :=
  World.cell?_setCell_other _ _ _ _ (fun h2 => h (congrArg Addr.off h2))

theorem Cfg.set0 {w : World} {C : Nat} {c0 c1 c2 c3 c4 c5 c6 : Value} (h : Cfg w C c0 c1 c2 c3 c4 c5 c6) (v : Value) : Cfg (w.setCell ⟨C, 0, none⟩ v) C v c1 c2 c3 c4 c5 c6 :=
  ⟨World.cell?_setCell_same _ _ _ h.a0, (other (by decide)).trans h.a1, (other (by decide)).trans h.a2, (other (by decide)).trans h.a3, (other (by decide)).trans h.a4, (other (by decide)).trans h.a5, (other (by decide)).trans h.a6, fun j hj => by rw [World.frozen?_setCell]; exact h.fz j hj⟩
theorem Cfg.set1 {w : World} {C : Nat} {c0 c1 c2 c3 c4 c5 c6 : Value} (h : Cfg w C c0 c1 c2 c3 c4 c5 c6) (v : Value) : Cfg (w.setCell ⟨C, 1, none⟩ v) C c0 v c2 c3 c4 c5 c6 :=
  ⟨(other (by decide)).trans h.a0, World.cell?_setCell_same _ _ _ h.a1, (other (by decide)).trans h.a2, (other (by decide)).trans h.a3, (other (by decide)).trans h.a4, (other (by decide)).trans h.a5, (other (by decide)).trans h.a6, fun j hj => by rw [World.frozen?_setCell]; exact h.fz j hj⟩
theorem Cfg.set2 {w : World} {C : Nat} {c0 c1 c2 c3 c4 c5 c6 : Value} (h : Cfg w C c0 c1 c2 c3 c4 c5 c6) (v : Value) : Cfg (w.setCell ⟨C, 2, none⟩ v) C c0 c1 v c3 c4 c5 c6 :=
  ⟨(other (by decide)).trans h.a0, (other (by decide)).trans h.a1, World.cell?_setCell_same _ _ _ h.a2, (other (by decide)).trans h.a3, (other (by decide)).trans h.a4, (other (by decide)).trans h.a5, (other (by decide)).trans h.a6, fun j hj => by rw [World.frozen?_setCell]; exact h.fz j hj⟩
theorem Cfg.set3 {w : World} {C : Nat} {c0 c1 c2 c3 c4 c5 c6 : Value} (h : Cfg w C c0 c1 c2 c3 c4 c5 c6) (v : Value) : Cfg (w.setCell ⟨C, 3, none⟩ v) C c0 c1 c2 v c4 c5 c6 :=
  ⟨(other (by decide)).trans h.a0, (other (by decide)).trans h.a1, (other (by decide)).trans h.a2, World.cell?_setCell_same _ _ _ h.a3, (other (by decide)).trans h.a4, (other (by decide)).trans h.a5, (other (by decide)).trans h.a6, fun j hj => by rw [World.frozen?_setCell]; exact h.fz j hj⟩
theorem Cfg.set4 {w : World} {C : Nat} {c0 c1 c2 c3 c4 c5 c6 : Value} (h : Cfg w C c0 c1 c2 c3 c4 c5 c6) (v : Value) : Cfg (w.setCell ⟨C, 4, none⟩ v) C c0 c1 c2 c3 v c5 c6 :=
  ⟨(other (by decide)).trans h.a0, (other (by decide)).trans h.a1, (other (by decide)).trans h.a2, (other (by decide)).trans h.a3, World.cell?_setCell_same _ _ _ h.a4, (other (by decide)).trans h.a5, (other (by decide)).trans h.a6, fun j hj => by rw [World.frozen?_setCell]; exact h.fz j hj⟩
theorem Cfg.set5 {w : World} {C : Nat} {c0 c1 c2 c3 c4 c5 c6 : Value} (h : Cfg w C c0 c1 c2 c3 c4 c5 c6) (v : Value) : Cfg (w.setCell ⟨C, 5, none⟩ v) C c0 c1 c2 c3 c4 v c6 :=
  ⟨(other (by decide)).trans h.a0, (other (by decide)).trans h.a1, (other (by decide)).trans h.a2, (other (by decide)).trans h.a3, (other (by decide)).trans h.a4, World.cell?_setCell_same _ _ _ h.a5, (other (by decide)).trans h.a6, fun j hj => by rw [World.frozen?_setCell]; exact h.fz j hj⟩
theorem Cfg.set6 {w : World} {C : Nat} {c0 c1 c2 c3 c4 c5 c6 : Value} (h : Cfg w C c0 c1 c2 c3 c4 c5 c6) (v : Value) : Cfg (w.setCell ⟨C, 6, none⟩ v) C c0 c1 c2 c3 c4 c5 v :=
  ⟨(other (by decide)).trans h.a0, (other (by decide)).trans h.a1, (other (by decide)).trans h.a2, (other (by decide)).trans h.a3, (other (by decide)).trans h.a4, (other (by decide)).trans h.a5, World.cell?_setCell_same _ _ _ h.a6, fun j hj => by rw [World.frozen?_setCell]; exact h.fz j hj⟩

theorem Cfg.lt {w : World} {C : Nat} {c0 c1 c2 c3 c4 c5 c6 : Value} (h : Cfg w C c0 c1 c2 c3 c4 c5 c6) : C < w.heap.size := World.block_lt_of_cell? _ _ h.a0

theorem Cfg.below {w w' : World} {B C : Nat} {c0 c1 c2 c3 c4 c5 c6 : Value} (h : Cfg w C c0 c1 c2 c3 c4 c5 c6) (hb : Below B w w') (hC : C < B) : Cfg w' C c0 c1 c2 c3 c4 c5 c6 :=
  ⟨(hb.cell hC).trans h.a0, (hb.cell hC).trans h.a1, (hb.cell hC).trans h.a2, (hb.cell hC).trans h.a3, (hb.cell hC).trans h.a4, (hb.cell hC).trans h.a5, (hb.cell hC).trans h.a6, fun i hi => (hb.frozen (p := ⟨C, i, none⟩) hC).trans (h.fz i hi)⟩

theorem Bytes.set {w : World} {g o C i : Nat} {l : List UInt8} {v : Value} (h : Bytes w g o l) (hg : g ≠ C) : Bytes (w.setCell ⟨C, i, none⟩ v) g o l :=
  fun j hj => (World.cell?_setCell_other _ _ _ _ (fun e => hg (congrArg Addr.block e).symm)).trans (h j hj)

theorem Bytes.below {w w' : World} {g o B : Nat} {l : List UInt8} (h : Bytes w g o l) (hb : Below B w w') (hg : g < B) : Bytes w' g o l :=
  fun j hj => (hb.cell hg).trans (h j hj)

theorem Bytes.drop {w : World} {g o : Nat} {a r : List UInt8} (h : Bytes w g o (a ++ r)) : Bytes w g (o + a.length) r := by
  intro j hj
  have := h (a.length + j) (by simp; omega)
  rw [Nat.add_assoc, this]
  simp

theorem list8 {α : Type} (l : List α) (h : l.length = 8) : ∃ a0 a1 a2 a3 a4 a5 a6 a7, l = [a0, a1, a2, a3, a4, a5, a6, a7] := by
  match l, h with
  | [a0, a1, a2, a3, a4, a5, a6, a7], _ => exact ⟨a0, a1, a2, a3, a4, a5, a6, a7, rfl⟩

theorem le_at {w : World} {g o n c bits : Nat} {r : List UInt8} (hB : Bytes w g o (Lib.leBytes 8 bits ++ r)) (hn : 8 ≤ n) (hb : bits < 18446744073709551616) :
    Calls Ybad.prog 13 #[.agg #[], .slice (some ⟨g, o, none⟩) n c] w fun e w' => e = .returned (.int .u64 (bits : Int)) ∧ Below w.heap.size w w' := by
  obtain ⟨b0, b1, b2, b3, b4, b5, b6, b7, he⟩ := list8 (Lib.leBytes 8 bits) (Lib.leBytes_length 8 bits)
  have hv : Lib.leNat [b0, b1, b2, b3, b4, b5, b6, b7] = bits := by rw [← he]; exact Lib.leNat_leBytes 8 bits hb
  rw [he] at hB
  have h := Ybad.binary_LE_Uint64 g o n c b0 b1 b2 b3 b4 b5 b6 b7 w hn (hB 0 (by simp)) (hB 1 (by simp)) (hB 2 (by simp)) (hB 3 (by simp)) (hB 4 (by simp)) (hB 5 (by simp)) (hB 6 (by simp)) (hB 7 (by simp))
  rw [hv] at h
  exact h

theorem hd_at {w : World} {g o : Nat} {cap : Int} {bits : Nat} {r : List UInt8} (hB : Bytes w g o (hd cap bits ++ r)) : Bytes w g (o + (Lib.uvarint (Lib.zigzag cap)).length) (Lib.leBytes 8 bits ++ r) := by
  rw [hd, List.append_assoc] at hB
  exact hB.drop

theorem frombits_run (bits : Nat) (w : World) : (callFunc 12 #[.int .u64 (bits : Int)]).run Ybad.prog w = .ok (.value (.float .f64 bits)) w := by
  rw [run_callFunc_extern Ybad.func12 (by kernel_rfl) (by kernel_rfl) (by kernel_rfl) (e := Extern.MathFloatBits.float64frombits) (by kernel_rfl)]; rfl

theorem bits_run (bits : Nat) (w : World) : (callFunc 7 #[.float .f64 bits]).run Ybad.prog w = .ok (.value (.int .u64 (bits : Int))) w := by
  rw [run_callFunc_extern Ybad.func7 (by kernel_rfl) (by kernel_rfl) (by kernel_rfl) (e := Extern.MathFloatBits.float64bits) (by kernel_rfl)]; rfl

/-- A store of a float: the walker's own set has none. -/
theorem store_float (bits : Nat) (w : World) (a : Addr) (m : Mode) : (store a (.float .f64 bits) m).run Ybad.prog w = stored Ybad.prog w a (.float .f64 bits) m := run_store Ybad.prog w a _ m rfl

set_option maxRecDepth 100000 in
set_option maxHeartbeats 800000 in
/-- A SHORT HEAD. -/
theorem dec_short (g o n c : Nat) (q : Value) (l : List UInt8) (v m : Int) (w : World) (E : Value) (hB : Bytes w g o l) (hl : l.length = n) (hv : Lib.varintDec l = (v, m)) (hm : m ≤ 0 ∨ (0 < m ∧ (n : Int) - m < 8 ∧ m ≤ 10)) (hn : n ≤ 100)
    (hE : w.cell? ⟨0, 0, none⟩ = some E) :
    Calls Ybad.prog 6 #[.slice (some ⟨g, o, none⟩) n c, q] w fun e w' => e = .returned E ∧ w' = w := by
  have HV := (show Hid (Calls Ybad.prog 11 #[.slice (some ⟨g, o, none⟩) n c] w fun e w' => e = .returned (.tuple #[.int .i64 v, .int .i64 m]) ∧ w' = w) from varint_at hB hl hv)
  clear hB hl hv
  rcases hm with hm | ⟨hm, hd, h10⟩
  · go_enter Ybad.func6, Ybad.ntmps6
    go_wp2_with fail
    refine HV.out.mono ?_
    rintro e w1 ⟨rfl, rfl⟩
    go_wp2
    go_ret
    exact ⟨rfl, rfl⟩
  · go_enter Ybad.func6, Ybad.ntmps6
    go_wp2_with fail
    refine HV.out.mono ?_
    rintro e w1 ⟨rfl, rfl⟩
    go_wp2
    go_ret
    exact ⟨rfl, rfl⟩

end Go.Proofs.YbulkceusDoor
