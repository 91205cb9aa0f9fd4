/-
  DERIVED. protocol.LawS4047BMessage: piece, assemblyOf, messageOf.
-/
import Derived.Test.YbulkceueMop
namespace Go.Proofs.Ybulkceue
open Go.RowKit

set_option maxRecDepth 100000 in
set_option maxHeartbeats 800000 in
theorem pieceof_log (w : World) (E S x base lb ll lc : Nat) (pa : Option Addr) (pn pc : Nat) (hx : x < 1000000) (hb : base ≤ x) (hl : x - base < ll) (hll : ll ≤ 1000000)
    (h4 : w.cell? ⟨S, 4, none⟩ = some (.slice (some ⟨lb, 0, none⟩) ll lc)) (h6 : w.cell? ⟨S, 6, none⟩ = some (.int .u64 (base : Int))) (hc : w.cell? ⟨lb, x - base, none⟩ = some (.slice pa pn pc)) :
    Calls Yba.prog 13 #[.pointer (some ⟨E, 0, none⟩), .pointer (some ⟨S, 0, none⟩), .int .u64 (x : Int)] w fun e w' => e = .returned (.slice pa pn pc) ∧ ∃ n, w' = w.drewN n := by
  have hp := payload_any w S x base lb ll lc pa pn pc hx hb hl hll h4 h6 hc
  go_enter Yba.func13, Yba.ntmps13
  go_wp2_with fail
  refine hp.mono ?_
  rintro e w1 ⟨rfl, n, rfl⟩
  go_wp2_with fail
  go_ret
  exact ⟨rfl, _, rfl⟩

theorem method_sp (a : Addr) (w : World) : (method 240 27 (.pointer (some a)) "Spilled").run Yba.prog w = .ok (37, .pointer (some a)) w := by kernel_rfl

set_option maxRecDepth 100000 in
set_option maxHeartbeats 800000 in
theorem pieceof_low (w : World) (E G V S x base : Nat) (org : Int) (hx : x < base)
    (h6 : w.cell? ⟨S, 6, none⟩ = some (.int .u64 (base : Int))) (h0 : w.cell? ⟨S, 0, none⟩ = some (.int .i64 org)) (e0 : w.cell? ⟨E, 0, none⟩ = some (.pointer (some ⟨G, 0, none⟩))) (g1 : w.cell? ⟨G, 1, none⟩ = some (.iface 27 (.pointer (some ⟨V, 0, none⟩)))) (R : Ending → World → Prop)
    (hS : Calls Yba.prog 37 #[.pointer (some ⟨V, 0, none⟩), .int .i64 org, .int .u64 (x : Int)] w.drew fun e w' => ∃ v, e = .returned v ∧ R e w') :
    Calls Yba.prog 13 #[.pointer (some ⟨E, 0, none⟩), .pointer (some ⟨S, 0, none⟩), .int .u64 (x : Int)] w R := by
  have hm := method_sp ⟨V, 0, none⟩
  have HS := (show Hid (Calls Yba.prog 37 #[.pointer (some ⟨V, 0, none⟩), .int .i64 org, .int .u64 (x : Int)] w.drew fun e w' => ∃ v, e = .returned v ∧ R e w') from hS)
  clear hS
  go_enter Yba.func13, Yba.ntmps13
  go_wp2_with fail
  go_region_with (first | (go_at_call 37; refine HS.out.mono ?_; rintro e w9 ⟨v, rfl, hR9⟩))
  all_goals
    go_wp2_with fail
    go_ret
    exact hR9

set_option maxRecDepth 100000 in
set_option maxHeartbeats 800000 in
theorem asm_has (w : World) (G M A : Nat) (org : Int) (hw : (Lit.int .i64 org).wf = true) (hg : w.cell? ⟨G, 10, none⟩ = some (.map (some M))) (hA : AsmAt w M org (some A)) :
    Calls Yba.prog 11 #[.pointer (some ⟨G, 0, none⟩), .int .i64 org] w fun e w' => e = .returned (.pointer (some ⟨A, 0, none⟩)) ∧ w' = w := by
  have hlook := hA.look hw
  clear hA
  go_enter Yba.func11, Yba.ntmps11
  go_wp2_with fail
  go_ret
  exact ⟨rfl, rfl⟩

/-- A new assembly under the key; all else as it was. -/
def AsmNew (w w' : World) (M : Nat) (org : Int) : Prop :=
  AsmAt w' M org (some w.heap.size) ∧ w'.cell? ⟨w.heap.size, 2, none⟩ = some (.int .u64 0) ∧ (∀ b i v, b ≠ M → w.cell? ⟨b, i, none⟩ = some v → w'.cell? ⟨b, i, none⟩ = some v) ∧ ∀ B, B ≤ M → B ≤ w.heap.size → Below B w w'

set_option maxRecDepth 100000 in
set_option maxHeartbeats 800000 in
theorem asm_new (w : World) (G M : Nat) (org : Int) (hw : (Lit.int .i64 org).wf = true) (hg : w.cell? ⟨G, 10, none⟩ = some (.map (some M))) (hA : AsmAt w M org none) :
    Calls Yba.prog 11 #[.pointer (some ⟨G, 0, none⟩), .int .i64 org] w fun e w' => e = .returned (.pointer (some ⟨w.heap.size, 0, none⟩)) ∧ AsmNew w w' M org := by
  have hlook := hA.look hw
  have hMlt := hA.lt
  have hA1 : AsmAt (w.alloc (.cells #[.int .u64 0, .int .u64 0, .int .u64 0, .int .u64 0, .slice none 0 0, .int .u64 0, .int .u64 0, .bool false, .slice none 0 0, .int .u64 0, .int .u64 0] 45)) M org none := hA.of_block (Below.heap_alloc w _ M hA.lt)
  obtain ⟨w2, hrun, hA2, hgr⟩ := hA1.put hw w.heap.size
  have hgA : (w.alloc (.cells #[.int .u64 0, .int .u64 0, .int .u64 0, .int .u64 0, .slice none 0 0, .int .u64 0, .int .u64 0, .bool false, .slice none 0 0, .int .u64 0, .int .u64 0] 45)).cell? ⟨G, 10, none⟩ = some (.map (some M)) := by rw [World.cell?_alloc_lt _ _ _ (World.block_lt_of_cell? _ _ hg)]; exact hg
  have hnew : AsmNew w w2 M org := by
    refine ⟨hA2, hgr.cell (by rw [World.cell?_alloc_new]; rfl) (by simp; omega), fun b i v hb hc => hgr.cell ((World.cell?_alloc_lt _ _ _ (World.block_lt_of_cell? _ _ hc)).trans hc) (by simpa using hb), fun B hB hBs => ((Below.refl B w).alloc hBs _).grown hgr (by simp; omega) (fun j hj => by cases hj; exact hB)⟩
  have HN : Hid (AsmNew w w2 M org) := hnew
  clear hnew hA2 hgr hA1 hA
  go_enter Yba.func11, Yba.ntmps11
  go_wp2_with fail
  go_ret
  exact ⟨rfl, HN.out⟩
end Go.Proofs.Ybulkceue
