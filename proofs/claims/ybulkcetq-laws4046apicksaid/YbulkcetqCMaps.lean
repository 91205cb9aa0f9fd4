/-
  DERIVED. chunk.LawS4046CModel: THE TWO MAPS (map[string]bool, map[string]*holder), told at the four names.
-/
import Derived.Test.YbulkcetqProg
import Derived.Maps.OwnSet
import Derived.WalkKit
import Derived.ProofKit
namespace Go.Proofs.Ybulkcetq
open Go.RowKit Go.WideMaps

/-- zzs4046cname's four names. -/
def nm : Nat → ByteArray
  | 0 => ⟨#[97, 58, 49]⟩
  | 1 => ⟨#[98, 58, 50]⟩
  | 2 => ⟨#[99, 58, 51]⟩
  | _ => ⟨#[100, 58, 52]⟩

/-- .. as keys. -/
def nmL (j : Nat) : Lit := .string (nm j).data.toList

theorem nm_size (j : Nat) : (nm j).size = 3 := by
  unfold nm
  split <;> rfl

theorem nmL_inj {i j : Nat} (hi : i < 4) (hj : j < 4) (h : nmL i = nmL j) : i = j := by
  have hc : ∀ a : Fin 4, ∀ b : Fin 4, (nm a.val).data.toList = (nm b.val).data.toList → a = b := by decide
  unfold nmL at h
  exact congrArg Fin.val (hc ⟨i, hi⟩ ⟨j, hj⟩ (Lit.string.inj h))

theorem law9 : Maps.Keyed Yba.prog 9 := Maps.string_keyed Yba.underlying9

theorem nm_key (j : Nat) : keyOf Yba.prog 9 (.string (nm j)) = some (nmL j) :=
  keyOf_string_mk Yba.underlying9 (by rw [nm_size]; decide)

/-- BLOCK b IS A MAP OF n ENTRIES; at name j it holds 'f j', if anything. -/
def MapAt (w : World) (R : Value → Option (DataW Unit × List MemPlace)) (b n : Nat) (f : Nat → Option (DataW Unit)) : Prop :=
  ∃ D, w.ownsMap Yba.prog 9 R b n D ∧ Maps.size D = n ∧ (∀ j, j < 4 → Maps.has D (nmL j) = (f j).isSome) ∧ ∀ j, j < 4 → ∀ z, D.atKey (nmL j) z = (f j).getD z

variable {w w' : World} {R : Value → Option (DataW Unit × List MemPlace)} {b n : Nat} {f : Nat → Option (DataW Unit)}

theorem MapAt.lt (h : MapAt w R b n f) : b < w.heap.size := by
  obtain ⟨D, ho, _⟩ := h
  exact ho.lt

theorem MapAt.made (w : World) (R : Value → Option (DataW Unit × List MemPlace)) : MapAt (w.alloc (.map #[] 0)) R w.heap.size 0 (fun _ => none) :=
  ⟨.map [], World.ownsMap_made w _ _ _, rfl, fun _ _ => rfl, fun _ _ _ => rfl⟩

/-- It is told by its block alone. -/
theorem MapAt.of_block (h : MapAt w R b n f) (hb : w'.heap[b]? = w.heap[b]?) : MapAt w' R b n f := by
  obtain ⟨D, ⟨es, clock, hbl, r⟩, rest⟩ := h
  exact ⟨D, ⟨es, clock, hb.trans hbl, r⟩, rest⟩

theorem MapAt.below {B : Nat} (h : MapAt w R b n f) (hb : Below B w w') (hlt : b < B) : MapAt w' R b n f := h.of_block (hb.block b hlt)
theorem MapAt.alloc (h : MapAt w R b n f) (o : Obj) : MapAt (w.alloc o) R b n f := h.of_block (Below.heap_alloc w o b h.lt)
theorem MapAt.setCell (h : MapAt w R b n f) {a : Addr} (ha : b ≠ a.block) (u : Value) : MapAt (w.setCell a u) R b n f := h.of_block (Below.heap_setCell w a u b ha)

theorem nmL_key (j : Nat) : WideAt.IsKeyLit (nmL j) := by unfold nmL; trivial

/-- A NEW NAME: 'm[name] = v'. -/
theorem MapAt.update {t e : TypeId} (h : MapAt w R b n f) (ht : Yba.prog.underlying t = some (.map 9 e)) (hn : n < maxLen) {j : Nat} (hj : j < 4) (hnew : f j = none) {val : Value} {d : DataW Unit} {ps : List MemPlace} (hv : R val = some (d, ps)) :
    ∃ w', (Instr.mapUpdate t (.map (some b)) (.string (nm j)) val).run Yba.prog w = .ok () w' ∧ MapAt w' R b (n + 1) (fun i => if i = j then some d else f i) ∧ w.grownBy w' (some b) := by
  obtain ⟨D, ho, hs, hh, ha⟩ := h
  obtain ⟨w1, hrun, ho1, hg⟩ := ho.update law9 ht hn (nm_key j) hv
  refine ⟨w1, hrun, ⟨D.put (nmL j) d, ho1, ?_, ?_, ?_⟩, hg⟩
  · rw [Maps.size_put (ho.tidy law9), hh j hj, hnew, hs]
    rfl
  · intro i hi
    by_cases e : i = j
    · subst e
      rw [Maps.has_put_same ho.isMap (nmL_key i)]
      simp
    · rw [Maps.has_put_other (fun x => e (nmL_inj hi hj x)), hh i hi]
      simp [e]
  · intro i hi z
    by_cases e : i = j
    · subst e
      rw [Maps.atKey_put_same ho.isMap (nmL_key i)]
      simp
    · rw [Maps.atKey_put_other (fun x => e (nmL_inj hi hj x)), ha i hi]
      simp [e]

/-- 'm[name]'. -/
theorem MapAt.look {t e : TypeId} (h : MapAt w R b n f) (ht : Yba.prog.underlying t = some (.map 9 e)) {z : Value} (hz : (zeroValue e).run Yba.prog w = .ok z w) {zd : DataW Unit} {zp : List MemPlace} (hzd : R z = some (zd, zp)) {j : Nat} (hj : j < 4) :
    ∃ v ps, (Instr.lookup t (.map (some b)) (.string (nm j)) false).run Yba.prog w = .ok v w ∧ R v = some ((f j).getD zd, ps) := by
  obtain ⟨D, ho, hs, hh, ha⟩ := h
  obtain ⟨v, ps, hrun, hv⟩ := ho.lookup law9 ht hz hzd (nm_key j)
  rw [ha j hj] at hv
  exact ⟨v, ps, hrun, hv⟩

/-- 'len(m)'. -/
theorem MapAt.len {t e : TypeId} (h : MapAt w R b n f) (ht : Yba.prog.underlying t = some (.map 9 e)) (ty : TypeId) : (Builtin.len_ #[t] ty #[.map (some b)]).run Yba.prog w = .ok (.int .i64 n) w := by
  obtain ⟨D, ho, hs, _⟩ := h
  have := ho.len ht ty
  rw [hs] at this
  exact this

/-! ### map[string]bool -/

/-- How a bool reads. -/
def RB : Value → Option (DataW Unit × List MemPlace)
  | .bool x => some (.lit (.bool x), [])
  | _ => none

theorem RB_mk (x : Bool) : RB (.bool x) = some (.lit (.bool x), []) := rfl

theorem RB_inv {v : Value} {x : Bool} {ps : List MemPlace} (h : RB v = some (.lit (.bool x), ps)) : v = .bool x := by
  unfold RB at h
  split at h <;> simp at h
  rw [h.1]

theorem zero4 (w : World) : (zeroValue 4).run Yba.prog w = .ok (.bool false) w := by kernel_rfl

/-- The asked set: just the names whose bit is set, each to true. -/
def BoolAt (w : World) (b n : Nat) (f : Nat → Bool) : Prop := MapAt w RB b n (fun j => if f j then some (.lit (.bool true)) else none)

theorem BoolAt.look (f : Nat → Bool) (h : BoolAt w b n f) {j : Nat} (hj : j < 4) : (Instr.lookup 44 (.map (some b)) (.string (nm j)) false).run Yba.prog w = .ok (.bool (f j)) w := by
  obtain ⟨v, ps, hrun, hv⟩ := MapAt.look h Yba.underlying44 (zero4 w) (RB_mk false) hj
  have e : ((if f j then some (DataW.lit (.bool true)) else none : Option (DataW Unit)).getD (.lit (.bool false))) = .lit (.bool (f j)) := by cases f j <;> rfl
  rw [e] at hv
  rw [hrun, RB_inv hv]

/-! ### map[string]*holder -/

/-- How a pointer to the head of a block reads: its block's number. -/
def RP : Value → Option (DataW Unit × List MemPlace)
  | .pointer none => some (.nil, [])
  | .pointer (some ⟨b, 0, none⟩) => some (.lit (.int .i64 (b : Int)), [])
  | _ => none

theorem RP_mk (b : Nat) : RP (.pointer (some ⟨b, 0, none⟩)) = some (.lit (.int .i64 (b : Int)), []) := rfl

theorem RP_inv {v : Value} {b : Nat} {ps : List MemPlace} (h : RP v = some (.lit (.int .i64 (b : Int)), ps)) : v = .pointer (some ⟨b, 0, none⟩) := by
  unfold RP at h
  split at h <;> simp at h
  obtain ⟨h, _⟩ := h
  obtain rfl := Int.ofNat.inj h
  rfl

theorem zero50 (w : World) : (zeroValue 50).run Yba.prog w = .ok (.pointer none) w := by kernel_rfl

/-- The peers: the first k names, each a pointer to its block. -/
def PeerAt (w : World) (b k : Nat) (p : Nat → Nat) : Prop := MapAt w RP b k (fun j => if j < k then some (.lit (.int .i64 (p j : Int))) else none)

theorem PeerAt.look {k : Nat} {p : Nat → Nat} (h : PeerAt w b k p) {j : Nat} (hj : j < 4) (hk : j < k) : (Instr.lookup 49 (.map (some b)) (.string (nm j)) false).run Yba.prog w = .ok (.pointer (some ⟨p j, 0, none⟩)) w := by
  obtain ⟨v, ps, hrun, hv⟩ := MapAt.look h Yba.underlying49 (zero50 w) (show RP (.pointer none) = some (.nil, []) from rfl) hj
  simp only [hk, if_true, Option.getD_some] at hv
  rw [hrun, RP_inv hv]

end Go.Proofs.Ybulkcetq
