/-
  DERIVED. protocol.LawS4047BMessage: THE MAP OF ASSEMBLIES (map[int]*assembly), told at one key.
-/
import Derived.Test.YbulkceueProg
import Derived.Maps.OwnSet
import Derived.WalkKit
import Derived.ProofKit
namespace Go.Proofs.Ybulkceue
open Go.RowKit Go.WideMaps

/-- How a pointer to the head of a block reads: its block's number. -/
def RP : Value → Option (DataW Unit × List MemPlace)
  | .pointer none => some (.nil, [])
  | .pointer (some ⟨b, 0, none⟩) => some (.lit (.int .i64 (b : Int)), [])
  | _ => none

theorem RP_inv {v : Value} {b : Nat} {ps : List MemPlace} (h : RP v = some (.lit (.int .i64 (b : Int)), ps)) : v = .pointer (some ⟨b, 0, none⟩) := by
  unfold RP at h
  split at h <;> simp at h
  obtain ⟨h, _⟩ := h
  obtain rfl := Int.ofNat.inj h
  rfl

theorem RP_nil {v : Value} {ps : List MemPlace} (h : RP v = some (.nil, ps)) : v = .pointer none := by
  unfold RP at h
  split at h <;> simp at h
  rfl

theorem zero42 (w : World) : (zeroValue 42).run Yba.prog w = .ok (.pointer none) w := by kernel_rfl
theorem law3 : Maps.Keyed Yba.prog 3 := Maps.int_keyed Yba.underlying3

def keyL (o : Int) : Lit := .int .i64 o
theorem keyL_key (o : Int) : WideAt.IsKeyLit (keyL o) := by unfold keyL; trivial
theorem keyL_of {o : Int} (h : (Lit.int .i64 o).wf = true) : keyOf Yba.prog 3 (.int .i64 o) = some (keyL o) := Maps.keyOf_int_mk Yba.underlying3 h

/-- What the map holds at the key. -/
def atO (x : Option Nat) : DataW Unit := match x with | none => .nil | some b => .lit (.int .i64 (b : Int))

/-- BLOCK M IS A MAP; at key o it holds the pointer to block x, if anything; nothing at any other key. -/
def AsmAt (w : World) (M : Nat) (o : Int) (x : Option Nat) : Prop :=
  ∃ D, w.ownsMap Yba.prog 3 RP M (if x.isSome then 1 else 0) D ∧ Maps.size D = (if x.isSome then 1 else 0) ∧ Maps.has D (keyL o) = x.isSome ∧ D.atKey (keyL o) .nil = atO x

variable {w w' : World} {M : Nat} {o : Int} {x : Option Nat}

theorem AsmAt.lt (h : AsmAt w M o x) : M < w.heap.size := by
  obtain ⟨D, ho, _⟩ := h
  exact ho.lt

theorem AsmAt.made (w : World) (o : Int) : AsmAt (w.alloc (.map #[] 0)) w.heap.size o none := ⟨.map [], World.ownsMap_made w _ _ _, rfl, rfl, rfl⟩

theorem AsmAt.of_block (h : AsmAt w M o x) (hb : w'.heap[M]? = w.heap[M]?) : AsmAt w' M o x := by
  obtain ⟨D, ⟨es, clock, hbl, r⟩, rest⟩ := h
  exact ⟨D, ⟨es, clock, hb.trans hbl, r⟩, rest⟩

/-- 'm[o] = p', where nothing was. -/
theorem AsmAt.put (h : AsmAt w M o none) (hw : (Lit.int .i64 o).wf = true) (b : Nat) :
    ∃ w', (Instr.mapUpdate 31 (.map (some M)) (.int .i64 o) (.pointer (some ⟨b, 0, none⟩))).run Yba.prog w = .ok () w' ∧ AsmAt w' M o (some b) ∧ w.grownBy w' (some M) := by
  obtain ⟨D, ho, hs, hh, ha⟩ := h
  obtain ⟨w1, hrun, ho1, hg⟩ := ho.update law3 Yba.underlying31 (by decide) (keyL_of hw) (show RP (.pointer (some ⟨b, 0, none⟩)) = some (.lit (.int .i64 (b : Int)), []) from rfl)
  refine ⟨w1, hrun, ⟨D.put (keyL o) (.lit (.int .i64 (b : Int))), ho1, ?_, ?_, ?_⟩, hg⟩
  · rw [Maps.size_put (ho.tidy law3), hh, hs]
    rfl
  · rw [Maps.has_put_same ho.isMap (keyL_key o)]
    rfl
  · rw [Maps.atKey_put_same ho.isMap (keyL_key o)]
    rfl

/-- 'm[o]'. -/
theorem AsmAt.look (h : AsmAt w M o x) (hw : (Lit.int .i64 o).wf = true) : (Instr.lookup 31 (.map (some M)) (.int .i64 o) false).run Yba.prog w = .ok (.pointer (x.map fun b => ⟨b, 0, none⟩)) w := by
  obtain ⟨D, ho, hs, hh, ha⟩ := h
  obtain ⟨v, ps, hrun, hv⟩ := ho.lookup law3 Yba.underlying31 (zero42 w) (show RP (.pointer none) = some (.nil, []) from rfl) (keyL_of hw)
  rw [ha] at hv
  rw [hrun]
  cases x with
  | none => rw [RP_nil hv]; rfl
  | some b => rw [RP_inv hv]; rfl

/-- 'len(m)'. -/
theorem AsmAt.len (h : AsmAt w M o x) (ty : TypeId) : (Builtin.len_ #[31] ty #[.map (some M)]).run Yba.prog w = .ok (.int .i64 (if x.isSome then 1 else 0 : Nat)) w := by
  obtain ⟨D, ho, hs, _⟩ := h
  have := ho.len Yba.underlying31 ty
  rw [hs] at this
  exact this
end Go.Proofs.Ybulkceue
