/-
  DERIVED. protocol.LawS4047BMessage: messageOfPiece, payload, Spilled, piece, assemblyOf.
-/
import Derived.Test.YbulkceuePiece
import Derived.Test.YbulkceueMaps
import Derived.Deep.RegionHeld3
import Derived.Deep.RegionWith
import Derived.BigQuiet
namespace Go.Proofs.Ybulkceue
open Go.RowKit

theorem read_any (w : World) (lo : Nat) (v : Value) (k : Int) (x y : Nat) (hP : PieceOk w lo v k y) (hx : x < 18446744073709551616) (hy : y < 18446744073709551616) :
    Calls Yba.prog 15 #[v, .int .u64 (x : Int)] w fun e w' => Rd e (wantOf k x y) ∧ Below w.heap.size w w' := by
  rcases hP with ⟨rfl, b, o, c, rfl, hb, hc, hm, h1⟩ | ⟨rfl, b, o, c, rfl, hb, hc, hm, h1, h2⟩ | ⟨h0, h1, ao, c, rfl⟩
  · exact read_whole w b o c x hc hx h1
  · exact read_numbered w b o c x y hc hm hy h1 h2
  · have e : wantOf k x y = 0 := by simp [wantOf, h0, h1]
    rw [e]
    exact read_none w ao c x

set_option maxRecDepth 100000 in
set_option maxHeartbeats 800000 in
theorem mop_any (w : World) (lo : Nat) (v : Value) (k : Int) (x y : Nat) (hP : PieceOk w lo v k y) (hx : x < 18446744073709551616) (hy : y < 18446744073709551616) :
    Calls Yba.prog 12 #[.int .u64 (x : Int), v] w fun e w' => e = .returned (.int .u64 (wantOf k x y : Nat)) ∧ Below w.heap.size w w' := by
  have hr := read_any w lo v k x y hP hx hy
  generalize wantOf k x y = N at *
  go_enter Yba.func12, Yba.ntmps12
  go_wp2_with fail
  refine hr.mono ?_
  rintro e w1 ⟨⟨a, b, ao, n, m, ok, rfl⟩, hb1⟩
  go_wp2_with fail
  go_ret
  exact ⟨rfl, hb1.alloc hb1.size _⟩

set_option maxRecDepth 100000 in
set_option maxHeartbeats 800000 in
theorem payload_any (w : World) (S x base lb ll lc : Nat) (pa : Option Addr) (pn pc : Nat) (hx : x < 1000000) (hb : base ≤ x) (hl : x - base < ll) (_hll : ll ≤ 1000000)
    (h4 : w.cell? ⟨S, 4, none⟩ = some (.slice (some ⟨lb, 0, none⟩) ll lc)) (h6 : w.cell? ⟨S, 6, none⟩ = some (.int .u64 (base : Int))) (hc : w.cell? ⟨lb, x - base, none⟩ = some (.slice pa pn pc)) :
    Calls Yba.prog 16 #[.pointer (some ⟨S, 0, none⟩), .int .u64 (x : Int)] w fun e w' => e = .returned (.slice pa pn pc) ∧ ∃ n, w' = w.drewN n := by
  have e1 : ((x : Int) - (base : Int)) = ((x - base : Nat) : Int) := by omega
  generalize x - base = q at *
  go_enter Yba.func16, Yba.ntmps16
  go_wp2_with fail
  go_quiet (fail)
  go_wp2_with fail
  go_ret
  exact ⟨rfl, _, rfl⟩

set_option maxRecDepth 100000 in
set_option maxHeartbeats 800000 in
theorem spilled_any (w : World) (V : Nat) (org : Int) (m x : Nat) (ka : Option Addr) (kl kc : Nat) (Z : Nat → Int) (c2 c3 c4 : Int) (hc2 : 0 ≤ c2 ∧ c2 ≤ 100) (hx : x < 18446744073709551616) (hK : ∀ w', Below V w w' → SlOf w' ka kl (fun j => .int .u8 (Z j))) (hZ : ∀ j, 0 ≤ Z j ∧ Z j ≤ 255) (hkl : kl ≤ 1024)
    (h0 : w.cell? ⟨V, 0, none⟩ = some (.slice ka kl kc)) (h1 : w.cell? ⟨V, 1, none⟩ = some (.int .u64 (m : Int))) (h2 : w.cell? ⟨V, 2, none⟩ = some (.int .i64 c2)) (h3 : w.cell? ⟨V, 3, none⟩ = some (.int .i64 c3)) (h4 : w.cell? ⟨V, 4, none⟩ = some (.int .u64 c4)) (hf : ∀ i, w.frozen? ⟨V, i, none⟩ = false) (lo : Nat) (hlo : lo < w.heap.size) :
    Calls Yba.prog 37 #[.pointer (some ⟨V, 0, none⟩), .int .i64 org, .int .u64 (x : Int)] w fun e w' => ∃ v, e = .returned v ∧ PieceOk w' lo v (kd kl Z x) (ad m x) ∧ Below w.heap.size (((w.setCell ⟨V, 2, none⟩ (.int .i64 (c2 + 1))).setCell ⟨V, 3, none⟩ (.int .i64 org)).setCell ⟨V, 4, none⟩ (.int .u64 (x : Int))) w' := by
  have f2 := hf 2
  have f3 := hf 3
  have f4 := hf 4
  go_enter Yba.func37, Yba.ntmps37
  go_wp2_with fail
  have g0 : (((w.setCell ⟨V, 2, none⟩ (.int .i64 (c2 + 1))).setCell ⟨V, 3, none⟩ (.int .i64 org)).setCell ⟨V, 4, none⟩ (.int .u64 (x : Int))).cell? ⟨V, 0, none⟩ = some (.slice ka kl kc) := by
    rw [far _ _ _ _ _ _ (.inr (by decide)), far _ _ _ _ _ _ (.inr (by decide)), far _ _ _ _ _ _ (.inr (by decide))]; exact h0
  have g1 : (((w.setCell ⟨V, 2, none⟩ (.int .i64 (c2 + 1))).setCell ⟨V, 3, none⟩ (.int .i64 org)).setCell ⟨V, 4, none⟩ (.int .u64 (x : Int))).cell? ⟨V, 1, none⟩ = some (.int .u64 (m : Int)) := by
    rw [far _ _ _ _ _ _ (.inr (by decide)), far _ _ _ _ _ _ (.inr (by decide)), far _ _ _ _ _ _ (.inr (by decide))]; exact h1
  have gB : Below V w (((w.setCell ⟨V, 2, none⟩ (.int .i64 (c2 + 1))).setCell ⟨V, 3, none⟩ (.int .i64 org)).setCell ⟨V, 4, none⟩ (.int .u64 (x : Int))) := (((Below.refl V w).setCell (Nat.le_refl _) _).setCell (Nat.le_refl _) _).setCell (Nat.le_refl _) _
  have gK := hK _ gB
  have gS : (((w.setCell ⟨V, 2, none⟩ (.int .i64 (c2 + 1))).setCell ⟨V, 3, none⟩ (.int .i64 org)).setCell ⟨V, 4, none⟩ (.int .u64 (x : Int))).heap.size = w.heap.size := by simp
  clear h0 h1 h2 h3 h4 hf f2 f3 f4 hK gB
  obtain ⟨W3, hW3⟩ : ∃ W3, W3 = (((w.setCell ⟨V, 2, none⟩ (.int .i64 (c2 + 1))).setCell ⟨V, 3, none⟩ (.int .i64 org)).setCell ⟨V, 4, none⟩ (.int .u64 (x : Int))) := ⟨_, rfl⟩
  rw [← hW3] at g0 g1 gK gS ⊢
  have HW3 : Hid (W3 = (((w.setCell ⟨V, 2, none⟩ (.int .i64 (c2 + 1))).setCell ⟨V, 3, none⟩ (.int .i64 org)).setCell ⟨V, 4, none⟩ (.int .u64 (x : Int)))) := hW3
  clear hW3
  have HU9 := (show Hid (Calls Yba.prog 4 #[.slice ka kl kc, .int .u64 (m : Int), .int .u64 (x : Int)] W3.drew fun e w' => ∃ v, e = .returned v ∧ PieceOk w' lo v (kd kl Z x) (ad m x) ∧ Below W3.drew.heap.size W3.drew w') from piece_any W3.drew ka kl kc Z m x gK hZ hkl hx lo (by show lo < W3.heap.size; omega))
  have HGS : Hid (w.heap.size ≤ W3.heap.size) := show w.heap.size ≤ W3.heap.size by omega
  clear gK
  go_region_with (first | (refine HU9.out.mono ?_; rintro e w9 ⟨v, rfl, hP9, hb9⟩; have hb9' : Below W3.heap.size W3 w9 := (Below.refl _ _).drew.trans hb9; clear hb9))
  all_goals
    go_wp2_with fail
    go_ret
    exact ⟨v, rfl, hP9, by rw [← HW3.out]; exact hb9'.mono HGS.out⟩
end Go.Proofs.Ybulkceue
