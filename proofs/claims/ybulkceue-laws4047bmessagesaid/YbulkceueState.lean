/-
  DERIVED. protocol.LawS4047BMessage: WHAT HOLDS OF THE STAND-IN, THE GROUP AND THE MAP.
-/
import Derived.Test.YbulkceueOf
namespace Go.Proofs.Ybulkceue
open Go.RowKit

/-- The stand-in lies at block V, the map at V + 1, the group at V + 2; V is the size of wc's heap. -/
structure VS (wc wx : World) (org : Int) (ka : Option Addr) (kl kc m : Nat) (c2 c3 c4 : Int) (xo : Option Nat) : Prop where
  bel : Below wc.heap.size wc wx
  lt : wc.heap.size + 1 + 1 < wx.heap.size
  v0 : wx.cell? ⟨wc.heap.size, 0, none⟩ = some (.slice ka kl kc)
  v1 : wx.cell? ⟨wc.heap.size, 1, none⟩ = some (.int .u64 (m : Int))
  v2 : wx.cell? ⟨wc.heap.size, 2, none⟩ = some (.int .i64 c2)
  v3 : wx.cell? ⟨wc.heap.size, 3, none⟩ = some (.int .i64 c3)
  v4 : wx.cell? ⟨wc.heap.size, 4, none⟩ = some (.int .u64 c4)
  vf : ∀ i, wx.frozen? ⟨wc.heap.size, i, none⟩ = false
  g1 : wx.cell? ⟨wc.heap.size + 1 + 1, 1, none⟩ = some (.iface 27 (.pointer (some ⟨wc.heap.size, 0, none⟩)))
  g10 : wx.cell? ⟨wc.heap.size + 1 + 1, 10, none⟩ = some (.map (some (wc.heap.size + 1)))
  am : AsmAt wx (wc.heap.size + 1) org xo

section
variable {wc wx wf : World} {org : Int} {ka : Option Addr} {kl kc m : Nat} {c2 c3 c4 : Int} {xo : Option Nat}

theorem VS.below (h : VS wc wx org ka kl kc m c2 c3 c4 xo) (hb : Below wx.heap.size wx wf) : VS wc wf org ka kl kc m c2 c3 c4 xo := by
  have hl := h.lt
  have k : ∀ bb i, bb < wx.heap.size → wf.cell? ⟨bb, i, none⟩ = wx.cell? ⟨bb, i, none⟩ := fun bb i hlt => hb.cell (p := ⟨bb, i, none⟩) hlt
  have kf : ∀ bb i, bb < wx.heap.size → wf.frozen? ⟨bb, i, none⟩ = wx.frozen? ⟨bb, i, none⟩ := fun bb i hlt => hb.frozen (p := ⟨bb, i, none⟩) hlt
  exact ⟨h.bel.trans (hb.mono h.bel.size), Nat.lt_of_lt_of_le hl hb.size, (k _ _ (by omega)).trans h.v0, (k _ _ (by omega)).trans h.v1, (k _ _ (by omega)).trans h.v2, (k _ _ (by omega)).trans h.v3, (k _ _ (by omega)).trans h.v4, fun i => (kf _ _ (by omega)).trans (h.vf i), (k _ _ (by omega)).trans h.g1, (k _ _ (by omega)).trans h.g10, h.am.of_block (hb.block _ h.am.lt)⟩

/-- 'g.assemblies[origin] = a', the block of a new. -/
theorem VS.put (h : VS wc wx org ka kl kc m c2 c3 c4 none) (hg : wx.grownBy wf (some (wc.heap.size + 1))) {A : Nat} (ha : AsmAt wf (wc.heap.size + 1) org (some A)) (hfr : ∀ i, wf.frozen? ⟨wc.heap.size, i, none⟩ = false) : VS wc wf org ka kl kc m c2 c3 c4 (some A) := by
  have hl := h.lt
  have k : ∀ bb i v, bb ≠ wc.heap.size + 1 → wx.cell? ⟨bb, i, none⟩ = some v → wf.cell? ⟨bb, i, none⟩ = some v := fun bb i v hne hc => hg.cell hc (by simpa using hne)
  exact ⟨h.bel.grown hg h.bel.size (fun j hj => by cases hj; omega), Nat.lt_of_lt_of_le hl hg.size, k _ _ _ (by omega) h.v0, k _ _ _ (by omega) h.v1, k _ _ _ (by omega) h.v2, k _ _ _ (by omega) h.v3, k _ _ _ (by omega) h.v4, hfr, k _ _ _ (by omega) h.g1, k _ _ _ (by omega) h.g10, ha⟩

/-- The stand-in's three cells set. -/
theorem VS.set (h : VS wc wx org ka kl kc m c2 c3 c4 xo) (d2 d3 d4 : Int) : VS wc (((wx.setCell ⟨wc.heap.size, 2, none⟩ (.int .i64 d2)).setCell ⟨wc.heap.size, 3, none⟩ (.int .i64 d3)).setCell ⟨wc.heap.size, 4, none⟩ (.int .u64 d4)) org ka kl kc m d2 d3 d4 xo := by
  have hl := h.lt
  have f : ∀ b i v, (b ≠ wc.heap.size ∨ (i ≠ 2 ∧ i ≠ 3 ∧ i ≠ 4)) → wx.cell? ⟨b, i, none⟩ = some v → (((wx.setCell ⟨wc.heap.size, 2, none⟩ (.int .i64 d2)).setCell ⟨wc.heap.size, 3, none⟩ (.int .i64 d3)).setCell ⟨wc.heap.size, 4, none⟩ (.int .u64 d4)).cell? ⟨b, i, none⟩ = some v := fun b i v hne hc => by
    rw [far _ _ _ _ _ _ (by omega), far _ _ _ _ _ _ (by omega), far _ _ _ _ _ _ (by omega)]; exact hc
  refine ⟨((h.bel.setCell (Nat.le_refl _) _).setCell (Nat.le_refl _) _).setCell (Nat.le_refl _) _, by simpa using hl, f _ _ _ (.inr (by omega)) h.v0, f _ _ _ (.inr (by omega)) h.v1, ?_, ?_, ?_, fun i => by simpa using h.vf i, f _ _ _ (.inl (by omega)) h.g1, f _ _ _ (.inl (by omega)) h.g10, h.am.of_block ?_⟩
  · rw [far _ _ _ _ _ _ (.inr (by decide)), far _ _ _ _ _ _ (.inr (by decide))]
    exact World.cell?_setCell_same _ _ _ h.v2
  · rw [far _ _ _ _ _ _ (.inr (by decide))]
    exact World.cell?_setCell_same _ _ _ (show _ = some (Value.int .i64 c3) by rw [far _ _ _ _ _ _ (.inr (by decide))]; exact h.v3)
  · exact World.cell?_setCell_same _ _ _ (show _ = some (Value.int .u64 c4) by rw [far _ _ _ _ _ _ (.inr (by decide)), far _ _ _ _ _ _ (.inr (by decide))]; exact h.v4)
  · rw [Below.heap_setCell _ _ _ _ (by show wc.heap.size + 1 ≠ wc.heap.size; omega), Below.heap_setCell _ _ _ _ (by show wc.heap.size + 1 ≠ wc.heap.size; omega), Below.heap_setCell _ _ _ _ (by show wc.heap.size + 1 ≠ wc.heap.size; omega)]
end
end Go.Proofs.Ybulkceue
