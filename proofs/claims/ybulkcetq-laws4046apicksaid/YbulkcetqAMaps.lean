/-
  DERIVED. backup.LawS4046APick: MAPS KEYED BY AN ID (map[ring.ID]bool, map[ring.ID][]int), told at the six ids.
-/
import Derived.Test.YbulkcetqProg
import Derived.Test.YbulkcetqAId
import Derived.Test.YbulkcetqCMaps
import Derived.Maps.OwnSet
import Derived.WideKeyEntry
import Derived.WalkKit
import Derived.ProofKit
namespace Go.Proofs.Ybulkcetq
open Go.RowKit Go.WideMaps

/-- The id of code k, as a value. -/
def idV (k : Nat) : Value := .agg (idC k).toArray

theorem idV_inj {i j : Nat} (h : idV i = idV j) : i = j := by
  unfold idV idC at h
  injection h with h
  injection h with h
  injection h with h _
  injection h with _ h
  exact Int.ofNat.inj h

theorem laidOutA : laidOutB Yba.prog = true := by kernel_rfl
theorem row28 : 28 < Yba.prog.types.size := of_decide_eq_true (by kernel_rfl)
theorem klaw28 : KeyLaw Yba.prog 28 := deep_law_laid laidOutA (m := 2) (by omega) row28 (by kernel_rfl) (by rw [Yba.underlying28])
theorem law28 : Maps.Keyed Yba.prog 28 := Maps.Keyed.of_law klaw28

theorem id_some0 : (keyOf Yba.prog 28 (idV 0)).isSome = true := by kernel_rfl
theorem id_some1 : (keyOf Yba.prog 28 (idV 1)).isSome = true := by kernel_rfl
theorem id_some2 : (keyOf Yba.prog 28 (idV 2)).isSome = true := by kernel_rfl
theorem id_some3 : (keyOf Yba.prog 28 (idV 3)).isSome = true := by kernel_rfl
theorem id_some4 : (keyOf Yba.prog 28 (idV 4)).isSome = true := by kernel_rfl
theorem id_some5 : (keyOf Yba.prog 28 (idV 5)).isSome = true := by kernel_rfl
theorem id_some : ∀ k, k < 6 → (keyOf Yba.prog 28 (idV k)).isSome = true := by
  intro k hk
  have hc : k = 0 ∨ k = 1 ∨ k = 2 ∨ k = 3 ∨ k = 4 ∨ k = 5 := by omega
  rcases hc with rfl | rfl | rfl | rfl | rfl | rfl
  · exact id_some0
  · exact id_some1
  · exact id_some2
  · exact id_some3
  · exact id_some4
  · exact id_some5

theorem id_key (k : Nat) (hk : k < 6) : ∃ l, keyOf Yba.prog 28 (idV k) = some l := Option.isSome_iff_exists.1 (id_some k hk)

/-- BLOCK b IS A MAP OF AT MOST n ENTRIES; at the id of code k it holds 'f k', if anything. -/
def MapI (w : World) (R : Value → Option (DataW Unit × List MemPlace)) (b n : Nat) (f : Nat → Option (DataW Unit)) : Prop :=
  ∃ D, w.ownsMap Yba.prog 28 R b n D ∧ ∀ k, k < 6 → ∀ l, keyOf Yba.prog 28 (idV k) = some l → ∀ z, D.atKey l z = (f k).getD z

variable {w w' : World} {R : Value → Option (DataW Unit × List MemPlace)} {b n : Nat} {f : Nat → Option (DataW Unit)}

theorem MapI.lt (h : MapI w R b n f) : b < w.heap.size := by
  obtain ⟨D, ho, _⟩ := h
  exact ho.lt

theorem MapI.made (w : World) (R : Value → Option (DataW Unit × List MemPlace)) : MapI (w.alloc (.map #[] 0)) R w.heap.size 0 (fun _ => none) :=
  ⟨.map [], World.ownsMap_made w _ _ _, fun _ _ _ _ _ => rfl⟩

theorem MapI.of_block (h : MapI w R b n f) (hb : w'.heap[b]? = w.heap[b]?) : MapI w' R b n f := by
  obtain ⟨D, ⟨es, clock, hbl, r⟩, rest⟩ := h
  exact ⟨D, ⟨es, clock, hb.trans hbl, r⟩, rest⟩

theorem MapI.mono (h : MapI w R b n f) {n' : Nat} (hn : n ≤ n') : MapI w R b n' f := by
  obtain ⟨D, ho, r⟩ := h
  exact ⟨D, ho.mono hn, r⟩

/-- The datum behind a store at one id. -/
theorem put_at {D : DataW Unit} (hD : Maps.IsMap D) {k : Nat} {lk : Lit} (hlk : keyOf Yba.prog 28 (idV k) = some lk) (h : ∀ j, j < 6 → ∀ l, keyOf Yba.prog 28 (idV j) = some l → ∀ z, D.atKey l z = (f j).getD z) (d : DataW Unit) :
    ∀ j, j < 6 → ∀ l, keyOf Yba.prog 28 (idV j) = some l → ∀ z, (D.put lk d).atKey l z = ((fun i => if i = k then some d else f i : Nat → Option (DataW Unit)) j).getD z := by
  intro j hj l hl z
  by_cases e : j = k
  · subst e
    obtain rfl : l = lk := Option.some.inj (hl.symm.trans hlk)
    rw [Maps.atKey_put_same hD (law28.key hlk)]
    simp
  · have hne : l ≠ lk := fun x => by
      subst x
      exact e (idV_inj (law28.inj hl hlk))
    rw [Maps.atKey_put_other hne, h j hj l hl]
    simp [e]

/-- 'm[id] = v'. -/
theorem MapI.update {t e : TypeId} (h : MapI w R b n f) (ht : Yba.prog.underlying t = some (.map 28 e)) (hn : n < maxLen) {k : Nat} (hk : k < 6) {val : Value} {d : DataW Unit} {ps : List MemPlace} (hv : R val = some (d, ps)) :
    ∃ w', (Instr.mapUpdate t (.map (some b)) (idV k) val).run Yba.prog w = .ok () w' ∧ MapI w' R b (n + 1) (fun i => if i = k then some d else f i) ∧ w.grownBy w' (some b) := by
  obtain ⟨D, ho, ha⟩ := h
  obtain ⟨lk, hlk⟩ := id_key k hk
  obtain ⟨w1, hrun, ho1, hg⟩ := ho.update law28 ht hn hlk hv
  exact ⟨w1, hrun, ⟨D.put lk d, ho1, put_at ho.isMap hlk ha d⟩, hg⟩

/-- 'm[id]'. -/
theorem MapI.look {t e : TypeId} (h : MapI w R b n f) (ht : Yba.prog.underlying t = some (.map 28 e)) {z : Value} (hz : (zeroValue e).run Yba.prog w = .ok z w) {zd : DataW Unit} {zp : List MemPlace} (hzd : R z = some (zd, zp)) {k : Nat} (hk : k < 6) :
    ∃ v ps, (Instr.lookup t (.map (some b)) (idV k) false).run Yba.prog w = .ok v w ∧ R v = some ((f k).getD zd, ps) := by
  obtain ⟨D, ho, ha⟩ := h
  obtain ⟨lk, hlk⟩ := id_key k hk
  obtain ⟨v, ps, hrun, hv⟩ := ho.lookup law28 ht hz hzd hlk
  rw [ha k hk lk hlk] at hv
  exact ⟨v, ps, hrun, hv⟩

/-! ### named: map[ring.ID]bool -/

/-- At the id of code k the map answers 'g k'. -/
def NamedAt (w : World) (b n : Nat) (g : Nat → Bool) : Prop := ∃ f, MapI w RB b n f ∧ ∀ k, k < 6 → (f k).getD (.lit (.bool false)) = .lit (.bool (g k))

theorem NamedAt.made (w : World) : NamedAt (w.alloc (.map #[] 0)) w.heap.size 0 (fun _ => false) := ⟨_, MapI.made w RB, fun _ _ => rfl⟩
theorem NamedAt.of_block {g : Nat → Bool} (h : NamedAt w b n g) (hb : w'.heap[b]? = w.heap[b]?) : NamedAt w' b n g := by
  obtain ⟨f, h1, h2⟩ := h
  exact ⟨f, h1.of_block hb, h2⟩
theorem NamedAt.lt {g : Nat → Bool} (h : NamedAt w b n g) : b < w.heap.size := by
  obtain ⟨f, h1, _⟩ := h
  exact h1.lt
theorem NamedAt.put {g : Nat → Bool} (h : NamedAt w b n g) (hn : n < maxLen) {k : Nat} (hk : k < 6) (v : Bool) :
    ∃ w', (Instr.mapUpdate 78 (.map (some b)) (idV k) (.bool v)).run Yba.prog w = .ok () w' ∧ NamedAt w' b (n + 1) (fun j => if k = j then v else g j) ∧ w.grownBy w' (some b) := by
  obtain ⟨f, h1, h2⟩ := h
  obtain ⟨w1, hrun, h3, hg⟩ := h1.update Yba.underlying78 hn hk (RB_mk v)
  refine ⟨w1, hrun, ⟨_, h3, fun j hj => ?_⟩, hg⟩
  by_cases e : j = k
  · subst e; simp
  · simp [e, Ne.symm e, h2 j hj]
theorem NamedAt.look {g : Nat → Bool} (h : NamedAt w b n g) {k : Nat} (hk : k < 6) : (Instr.lookup 78 (.map (some b)) (idV k) false).run Yba.prog w = .ok (.bool (g k)) w := by
  obtain ⟨f, h1, h2⟩ := h
  obtain ⟨v, ps, hrun, hv⟩ := h1.look Yba.underlying78 (zero4 w) (RB_mk false) hk
  rw [h2 k hk] at hv
  rw [hrun, RB_inv hv]

/-! ### at: map[ring.ID][]int -/

/-- How a slice that begins at the head of a block reads: its block, its length, its capacity. -/
def RS : Value → Option (DataW Unit × List MemPlace)
  | .slice none 0 0 => some (.nil, [])
  | .slice (some ⟨g, 0, none⟩) l c => some (.agg [.lit (.int .i64 (g : Int)), .lit (.int .i64 (l : Int)), .lit (.int .i64 (c : Int))], [])
  | _ => none

theorem RS_inj {v u : Value} {d : DataW Unit} {ps qs : List MemPlace} (h : RS v = some (d, ps)) (h' : RS u = some (d, qs)) : v = u := by
  unfold RS at h h'
  split at h <;> split at h' <;> simp at h h'
  · rfl
  · obtain ⟨rfl, _⟩ := h; simp at h'
  · obtain ⟨rfl, _⟩ := h; simp at h'
  · obtain ⟨rfl, _⟩ := h
    simp at h'
    obtain ⟨⟨h1, h2, h3⟩, _⟩ := h'
    rw [Int.ofNat.inj h1, Int.ofNat.inj h2, Int.ofNat.inj h3]

theorem zero71 (w : World) : (zeroValue 71).run Yba.prog w = .ok (.slice none 0 0) w := by kernel_rfl

/-- At the id of code k the map holds the slice 'vs k' (nil: nothing is there). -/
def AtAt (w : World) (b n : Nat) (vs : Nat → Value) : Prop := ∃ f, MapI w RS b n f ∧ ∀ k, k < 6 → ∃ ps, RS (vs k) = some ((f k).getD .nil, ps)

theorem AtAt.made (w : World) : AtAt (w.alloc (.map #[] 0)) w.heap.size 0 (fun _ => .slice none 0 0) := ⟨_, MapI.made w RS, fun _ _ => ⟨[], rfl⟩⟩
theorem AtAt.of_block {vs : Nat → Value} (h : AtAt w b n vs) (hb : w'.heap[b]? = w.heap[b]?) : AtAt w' b n vs := by
  obtain ⟨f, h1, h2⟩ := h
  exact ⟨f, h1.of_block hb, h2⟩
theorem AtAt.lt {vs : Nat → Value} (h : AtAt w b n vs) : b < w.heap.size := by
  obtain ⟨f, h1, _⟩ := h
  exact h1.lt
theorem AtAt.look {vs : Nat → Value} (h : AtAt w b n vs) {k : Nat} (hk : k < 6) : (Instr.lookup 79 (.map (some b)) (idV k) false).run Yba.prog w = .ok (vs k) w := by
  obtain ⟨f, h1, h2⟩ := h
  obtain ⟨v, ps, hrun, hv⟩ := h1.look Yba.underlying79 (zero71 w) (show RS (.slice none 0 0) = some (.nil, []) from rfl) hk
  obtain ⟨qs, hq⟩ := h2 k hk
  rw [hrun, RS_inj hv hq]

theorem pair_unique : ∀ {l : List MapEntry} (_ : (l.map (·.key)).Nodup) {a c : MapEntry} (_ : a ∈ l) (_ : c ∈ l) (_ : a.key = c.key), a = c
  | [], _, _, _, ha, _, _ => by cases ha
  | x :: r, h, a, c, ha, hc, hk => by
    obtain ⟨h1, h2⟩ := List.nodup_cons.1 (by simpa using h : (x.key :: r.map (·.key)).Nodup)
    rcases List.mem_cons.1 ha with e | ha2
    · rcases List.mem_cons.1 hc with e' | hc2
      · rw [e, e']
      · rw [e] at hk
        exact absurd (List.mem_map.2 ⟨c, hc2, hk.symm⟩) h1
    · rcases List.mem_cons.1 hc with e' | hc2
      · rw [e'] at hk
        exact absurd (List.mem_map.2 ⟨a, ha2, hk⟩) h1
      · exact pair_unique h2 ha2 hc2 hk

/-- 'at[id] = append(at[id], i)': THE ENTRY IS FETCHED, AND STORED BEHIND THE append. -/
theorem AtAt.entry {vs : Nat → Value} (h : AtAt w b n vs) (hn : n < maxLen) {k : Nat} (hk : k < 6) :
    ∃ (st : Nat) (w1 : World), (Instr.mapEntry 79 (.map (some b)) (idV k)).run Yba.prog w = .ok (.tuple #[vs k, .int .i64 (st : Int)]) w1 ∧ w.grownBy w1 (some b) ∧ w1.heap.size = w.heap.size ∧
      ∀ (w2 : World) (v' : Value) (d : DataW Unit) (ps : List MemPlace), w2.heap[b]? = w1.heap[b]? → RS v' = some (d, ps) →
        ∃ w3, (Instr.entryStore 79 (.map (some b)) (.int .i64 (st : Int)) v').run Yba.prog w2 = .ok () w3 ∧ AtAt w3 b (n + 1) (fun j => if k = j then v' else vs j) ∧ w2.grownBy w3 (some b) := by
  have hlook := h.look hk
  obtain ⟨f, ⟨D, ⟨es, clock, hb, F, hs, hD⟩, ha⟩, h2⟩ := h
  obtain ⟨lk, hlk⟩ := id_key k hk
  obtain ⟨v0, st, es1, clock1, hrun1, hv0, hst⟩ := WideElems.entry_then_store klaw28 Yba.underlying79 zero71 hb F hlk
  have e0 : v0 = vs k := by
    rcases Maps.fit_look false law28 Yba.underlying79 (zero71 w) hb F hlk with ⟨hr, hno, _⟩ | ⟨e1, y, hm, hkey, hr, _⟩
    · have e1 : vs k = .slice none 0 0 := by
        have := hlook.symm.trans hr
        simpa using this
      rcases hv0 with ⟨e, he, hek, _⟩ | ⟨_, rfl⟩
      · exact absurd hek (hno e he)
      · exact e1.symm
    · have e2 : vs k = e1.val := by
        have := hlook.symm.trans hr
        simpa using this
      rcases hv0 with ⟨e, he, hek, rfl⟩ | ⟨hno, _⟩
      · rw [e2, pair_unique F.stamped.2.2 he hm (hek.trans hkey.symm)]
      · exact absurd hkey (hno e1 hm)
  subst e0
  have hg : ∀ (u : World) (o : Obj), u.heap[b]? = some (.map es1 clock1) ∨ u.heap[b]? = some (.map es clock) → u.grownBy (ChangeMaps.setBlock u b o) (some b) := fun u o hu => by
    rcases hu with hu | hu <;> exact ⟨rfl, rfl, rfl, by simp [ChangeMaps.setBlock], fun i _ hi => ChangeMaps.heap_setBlock_other hu _ (fun e => hi (by rw [e]))⟩
  have hb1 : (ChangeMaps.setBlock w b (.map es1 clock1)).heap[b]? = some (.map es1 clock1) := ChangeMaps.heap_setBlock_same hb _
  refine ⟨st, _, hrun1, hg w _ (.inr hb), by simp [ChangeMaps.setBlock], fun w2 v' d ps hw2 hv' => ?_⟩
  have hw2' : w2.heap[b]? = some (.map es1 clock1) := hw2.trans hb1
  obtain ⟨es', clock', hr1, hr2⟩ := hst w2 v' hw2'
  obtain ⟨w', hup, ho', hg'⟩ := World.ownsMap.update (⟨es, clock, hb, F, hs, hD⟩ : w.ownsMap Yba.prog 28 RS b n D) law28 Yba.underlying79 hn hlk hv'
  have ew : w' = ChangeMaps.setBlock w b (.map es' clock') := by
    have := hup.symm.trans hr2
    simpa using this
  subst ew
  refine ⟨_, hr1, ?_, hg w2 _ (.inl hw2')⟩
  have hM : MapI (ChangeMaps.setBlock w b (.map es' clock')) RS b (n + 1) (fun i => if i = k then some d else f i) :=
    ⟨D.put lk d, ho', put_at (World.ownsMap.isMap (⟨es, clock, hb, F, hs, hD⟩ : w.ownsMap Yba.prog 28 RS b n D)) hlk ha d⟩
  refine ⟨_, hM.of_block ((ChangeMaps.heap_setBlock_same hw2' _).trans (ChangeMaps.heap_setBlock_same hb _).symm), fun j hj => ?_⟩
  by_cases e : j = k
  · subst e
    exact ⟨ps, by simpa using hv'⟩
  · obtain ⟨qs, hq⟩ := h2 j hj
    exact ⟨qs, by simpa [e, Ne.symm e] using hq⟩

end Go.Proofs.Ybulkcetq
