/-
  DERIVED. backup.LawS4046APick: WHAT HOLDS OF THE MEMORY THAT THE CALL MAKES, round by round.
-/
import Derived.Test.YbulkcetqALike
namespace Go.Proofs.Ybulkcetq
open Go.RowKit

/-- What the arguments are in memory. -/
structure AArg (w : World) (a0 : Option Addr) (n : Nat) (A : Nat → Option Addr) (L C : Nat → Nat) (Z : Nat → Nat → Int) (aa : Option Addr) (la : Nat) (Y : Nat → Int) (ha : Option Addr) (lh : Nat) (H0 : Nat → Bool) : Prop where
  row : SlOf w a0 n (fun i => .slice (A i) (L i) (C i))
  el : ∀ i, i < n → SlOf w (A i) (L i) (fun j => .int .u8 (Z i j))
  rng : ∀ i j, 0 ≤ Z i j ∧ Z i j ≤ 255
  ids : SlOf w aa la (fun j => .int .u8 (Y j))
  irng : ∀ j, 0 ≤ Y j ∧ Y j ≤ 255
  held : SlOf w ha lh (fun j => .bool (H0 j))

theorem AArg.below {w w' : World} {a0 : Option Addr} {n : Nat} {A : Nat → Option Addr} {L C : Nat → Nat} {Z : Nat → Nat → Int} {aa : Option Addr} {la : Nat} {Y : Nat → Int} {ha : Option Addr} {lh : Nat} {H0 : Nat → Bool}
    (h : AArg w a0 n A L C Z aa la Y ha lh H0) (hb : Below w.heap.size w w') : AArg w' a0 n A L C Z aa la Y ha lh H0 :=
  ⟨h.row.below hb rfl, fun i hi => (h.el i hi).below hb rfl, h.rng, h.ids.below hb rfl, h.irng, h.held.below hb rfl⟩

theorem info34 : (Yba.prog.info? 34).map (fun i => (i.zero, i.size, i.bytes)) = some (some (.agg #[.int .i64 0, .slice none 0 0, .string ⟨#[]⟩, .map none]), 4, 56) := by kernel_rfl
theorem info4 : (Yba.prog.info? 4).map (fun i => (i.zero, i.size, i.bytes)) = some (some (.bool false), 1, 1) := by kernel_rfl

/-- 'n': the node's name that the law lays. -/
def nn : ByteArray := ⟨#[110]⟩

/-- The ids of a row, behind block B. -/
def IdsGt (w : World) (B : Nat) (io : Option Addr) (n : Nat) (cd : Nat → Nat) : Prop := ∀ j, j < n → ∃ b, io = some ⟨b, 0, none⟩ ∧ B < b ∧ w.rangeAt b (j * 32) (idC (cd j))

theorem IdsGt.ids {w : World} {B : Nat} {io : Option Addr} {n : Nat} {cd : Nat → Nat} (h : IdsGt w B io n cd) : IdsOf w io n cd := fun j hj => by
  obtain ⟨b, e, _, hr⟩ := h j hj
  exact ⟨b, e, hr⟩

theorem IdsGt.below {w w' : World} {B S : Nat} {io : Option Addr} {n : Nat} {cd : Nat → Nat} (h : IdsGt w B io n cd) (hb : Below S w w') (hB : S = w.heap.size) : IdsGt w' B io n cd := fun j hj => by
  obtain ⟨b, e, hlt, hr⟩ := h j hj
  exact ⟨b, e, hlt, rangeAt_any_below hr hb hB⟩

/-- Record i lies there. -/
def RecOk (wr : World) (B0 i Li : Nat) (Zi : Nat → Int) (s : Option Addr × Nat) : Prop :=
  wr.rangeAt B0 (i * 4) (recC i s.1 Li s.2 nn) ∧ IdsGt wr B0 s.1 Li (fun j => codeN (Zi j))

/-- Behind k rounds of the second loop. -/
structure AInv (w wr : World) (N n k : Nat) (L : Nat → Nat) (Z : Nat → Nat → Int) : Prop where
  bel : Below w.heap.size w wr
  lt : w.heap.size < wr.heap.size
  th : wr.there w.heap.size 0 (N * 4)
  dn : ∀ i, i < k → ∃ s, RecOk wr w.heap.size i (L i) (Z i) s
  zr : n = 0 → wr.rangeAt w.heap.size 0 (recC 0 none 0 0 ⟨#[]⟩)

theorem madeCells_at (z : Array Value) (n j : Nat) (h : j < n) : (madeCells z n).toList[j]? = some (z[j % z.size]!) := by
  simp [madeCells, h]

theorem there_own {w : World} {S : Nat} {e : TypeId} {size n g : Nat} {xs : List Value} (h : w.ownsRow S e size (.slice (some ⟨g, 0, none⟩) n n) n xs) : w.there g 0 (n * size) := fun j hj => by
  rw [Nat.zero_add]
  refine ⟨?_, h.frozenAt j⟩
  rw [h.cellAt j hj, List.getElem?_eq_getElem (by rw [h.1]; exact hj)]
  rfl

theorem AInv.start {w w1 : World} {n : Nat} {L : Nat → Nat} {Z : Nat → Nat → Int} {N : Nat} (hN : n = 0 → N = 1)
    (h1 : w1.ownsRow w.heap.size 34 4 (.slice (some ⟨w.heap.size, 0, none⟩) N N) N (madeCells (Value.cells (.agg #[.int .i64 0, .slice none 0 0, .string ⟨#[]⟩, .map none])) (N * 4)).toList) (g1 : w.grownBy w1 none) : AInv w w1 N n 0 L Z := by
  refine ⟨(Below.refl _ _).grown g1 (Nat.le_refl _) (fun _ h => by cases h), (h1.lt w.heap.size rfl).2, there_own h1, fun i hi => by omega, fun h0 j v hv => ?_⟩
  obtain rfl := hN h0
  have hj : j < 4 := (List.getElem?_eq_some_iff.1 hv).1
  rw [Nat.zero_add, h1.cellAt j (by omega), ← hv, madeCells_at _ _ _ (by omega)]
  have hc : j = 0 ∨ j = 1 ∨ j = 2 ∨ j = 3 := by omega
  rcases hc with rfl | rfl | rfl | rfl <;> rfl

theorem AInv.below {w wr wf : World} {N n k : Nat} {L : Nat → Nat} {Z : Nat → Nat → Int} (h : AInv w wr N n k L Z) (hb : Below wr.heap.size wr wf) : AInv w wf N n k L Z := by
  refine ⟨h.bel.trans (hb.mono h.bel.size), Nat.lt_of_lt_of_le h.lt hb.size, there_below h.th hb h.lt, fun i hi => ?_, fun h0 => rangeAt_any_below (h.zr h0) hb rfl⟩
  obtain ⟨s, h1, h2⟩ := h.dn i hi
  exact ⟨s, rangeAt_any_below h1 hb rfl, h2.below hb rfl⟩

/-- The record of round k is stored. -/
theorem AInv.put {w wr : World} {N n k : Nat} {L : Nat → Nat} {Z : Nat → Nat → Int} (h : AInv w wr N n k L Z) (hkn : k < n) (hkN : k < N) (ro : Option Addr) (rc : Nat) (hids : IdsGt wr w.heap.size ro (L k) (fun j => codeN (Z k j))) :
    AInv w (wr.setCells w.heap.size (k * 4) (recC k ro (L k) rc nn)) N n (k + 1) L Z := by
  have htk : wr.there w.heap.size (k * 4) (recC (k : Int) ro (L k) rc nn).length := fun j hj => by
    have hj' : j < 4 := hj
    have := h.th (k * 4 + j) (by omega)
    rwa [Nat.zero_add] at this
  refine ⟨below_setCells h.bel (Nat.le_refl _) _, by rw [size_setCells]; exact h.lt, World.there_setCells h.th _ _ _, fun i hi => ?_, fun h0 => by omega⟩
  by_cases e : i = k
  · subst e
    exact ⟨(ro, rc), World.rangeAt_setCells_same _ _ _ _ htk, fun j hj => by
      obtain ⟨b, e, hlt, hr⟩ := hids j hj
      exact ⟨b, e, hlt, World.rangeAt_setCells_apart hr _ _ _ (.inl (by omega))⟩⟩
  · obtain ⟨s, h1, h2⟩ := h.dn i (by omega)
    refine ⟨s, World.rangeAt_setCells_apart h1 _ _ _ (.inr (.inl (by simp [recC]; omega))), fun j hj => ?_⟩
    obtain ⟨b, e, hlt, hr⟩ := h2 j hj
    exact ⟨b, e, hlt, World.rangeAt_setCells_apart hr _ _ _ (.inl (by omega))⟩

/-- A row of ids that the call fills: block g, q ids laid. -/
structure FInv (wo wr : World) (g m q : Nat) (cd : Nat → Nat) : Prop where
  bel : Below wo.heap.size wo wr
  ge : wo.heap.size ≤ g
  lt : g < wr.heap.size
  th : wr.there g 0 (m * 32)
  dn : ∀ j, j < q → wr.rangeAt g (j * 32) (idC (cd j))

theorem FInv.start {w w1 : World} {m : Nat} {cd : Nat → Nat} {xs : List Value} (h1 : w1.ownsRow w.heap.size 28 32 (.slice (some ⟨w.heap.size, 0, none⟩) m m) m xs) (g1 : w.grownBy w1 none) : FInv w w1 w.heap.size m 0 cd :=
  ⟨(Below.refl _ _).grown g1 (Nat.le_refl _) (fun _ h => by cases h), Nat.le_refl _, (h1.lt w.heap.size rfl).2, there_own h1, fun i hi => by omega⟩

theorem FInv.below {wo wr wf : World} {g m q : Nat} {cd : Nat → Nat} (h : FInv wo wr g m q cd) (hb : Below wr.heap.size wr wf) : FInv wo wf g m q cd :=
  ⟨h.bel.trans (hb.mono h.bel.size), h.ge, Nat.lt_of_lt_of_le h.lt hb.size, there_below h.th hb h.lt, fun i hi => rangeAt_any_below (h.dn i hi) hb rfl⟩

theorem FInv.at' {wo wr : World} {g m q : Nat} {cd : Nat → Nat} (h : FInv wo wr g m q cd) (hq : q < m) : wr.there g (q * 32) 32 := fun j hj => by
  have := h.th (q * 32 + j) (by omega)
  rwa [Nat.zero_add] at this

theorem FInv.put {wo wr : World} {g m q : Nat} {cd : Nat → Nat} (h : FInv wo wr g m q cd) (hq : q < m) : FInv wo (wr.setCells g (q * 32) (idC (cd q))) g m (q + 1) cd := by
  refine ⟨below_setCells h.bel h.ge _, h.ge, by rw [size_setCells]; exact h.lt, World.there_setCells h.th _ _ _, fun i hi => ?_⟩
  by_cases e : i = q
  · subst e
    exact World.rangeAt_setCells_same _ _ _ _ (by rw [idC_length]; exact h.at' hq)
  · exact World.rangeAt_setCells_apart (h.dn i (by omega)) _ _ _ (.inr (.inl (by rw [idC_length]; omega)))

theorem FInv.setFar {wo wr : World} {g m q h o : Nat} {cd : Nat → Nat} {v : Value} (hi : FInv wo wr g m q cd) (hge : wo.heap.size ≤ h) (hne : h ≠ g) : FInv wo (wr.setCell ⟨h, o, none⟩ v) g m q cd :=
  ⟨hi.bel.setCell hge v, hi.ge, by simp; exact hi.lt, World.there_setCells hi.th h o [v], fun i hi' => World.rangeAt_setCells_apart (hi.dn i hi') h o [v] (.inl (Ne.symm hne))⟩

theorem FInv.base {w0 wo wr : World} {g m q : Nat} {cd : Nat → Nat} (h : FInv wo wr g m q cd) (hb : Below w0.heap.size w0 wo) : FInv w0 wr g m q cd :=
  ⟨hb.trans (h.bel.mono hb.size), Nat.le_trans hb.size h.ge, h.lt, h.th, h.dn⟩

theorem FInv.ids {wo wr : World} {g m : Nat} {cd : Nat → Nat} (h : FInv wo wr g m m cd) (B : Nat) (hB : B < g) : IdsGt wr B (some ⟨g, 0, none⟩) m cd := fun j hj => ⟨g, rfl, hB, h.dn j hj⟩

/-- The law's own 'held' row: block h, m cells, the first q of them laid. -/
def hh (lh : Nat) (H0 : Nat → Bool) (j : Nat) : Bool := decide (j < lh) && H0 j

structure HInv (wr : World) (h m q lh : Nat) (H0 : Nat → Bool) : Prop where
  lt : h < wr.heap.size
  fr : ∀ j, wr.frozen? ⟨h, j, none⟩ = false
  cl : ∀ j, j < m → wr.cell? ⟨h, j, none⟩ = some (.bool (decide (j < q) && hh lh H0 j))

theorem HInv.start {w w1 : World} {m lh : Nat} {H0 : Nat → Bool} (h1 : w1.ownsRow w.heap.size 4 1 (.slice (some ⟨w.heap.size, 0, none⟩) m m) m (madeCells (Value.cells (.bool false)) (m * 1)).toList) : HInv w1 w.heap.size m 0 lh H0 := by
  refine ⟨(h1.lt w.heap.size rfl).2, fun j => h1.frozenAt j, fun j hj => ?_⟩
  rw [h1.cellAt j (by omega), madeCells_at _ _ _ (by omega)]
  have e : (Value.cells (.bool false)) = #[.bool false] := rfl
  rw [e]
  have e2 : j % (#[Value.bool false]).size = 0 := by simp [Nat.mod_one]
  rw [e2]
  simp

theorem HInv.below {wr wf : World} {h m q lh : Nat} {H0 : Nat → Bool} (hi : HInv wr h m q lh H0) (hb : Below wr.heap.size wr wf) : HInv wf h m q lh H0 :=
  ⟨Nat.lt_of_lt_of_le hi.lt hb.size, fun j => (hb.frozen (p := ⟨h, j, none⟩) hi.lt).trans (hi.fr j), fun j hj => (hb.cell (p := ⟨h, j, none⟩) hi.lt).trans (hi.cl j hj)⟩

theorem HInv.far {wr : World} {h m q lh g : Nat} {H0 : Nat → Bool} (hi : HInv wr h m q lh H0) (hne : h ≠ g) (o : Nat) (vs : List Value) : HInv (wr.setCells g o vs) h m q lh H0 :=
  ⟨by rw [size_setCells]; exact hi.lt, fun j => by rw [World.frozen?_setCells]; exact hi.fr j, fun j hj => by
    rw [World.cell?_setCells_out g vs o wr ⟨h, j, none⟩ (fun hb _ => absurd hb hne)]; exact hi.cl j hj⟩

theorem HInv.skip {wr : World} {h m q lh : Nat} {H0 : Nat → Bool} (hi : HInv wr h m q lh H0) (hq : ¬ q < lh) : HInv wr h m (q + 1) lh H0 := by
  refine ⟨hi.lt, hi.fr, fun j hj => ?_⟩
  rw [hi.cl j hj]
  unfold hh
  by_cases e : j < q
  · simp [e, show j < q + 1 by omega]
  · by_cases e2 : j < lh
    · omega
    · simp [e2]

theorem HInv.put {wr : World} {h m q lh : Nat} {H0 : Nat → Bool} (hi : HInv wr h m q lh H0) (hqm : q < m) (hq : q < lh) : HInv (wr.setCell ⟨h, q, none⟩ (.bool (H0 q))) h m (q + 1) lh H0 := by
  refine ⟨by simp; exact hi.lt, fun j => by simpa using hi.fr j, fun j hj => ?_⟩
  by_cases e : j = q
  · subst e
    rw [World.cell?_setCell_same _ _ _ (hi.cl j hj)]
    simp [hh, hq]
  · rw [World.cell?_setCell_other _ _ _ _ (fun he => by injection he with _ he; omega), hi.cl j hj]
    have : decide (j < q + 1) = decide (j < q) := by
      rw [decide_eq_decide]; omega
    rw [this]

/-- What the law hands to 'likeliest', a device given at least. -/
theorem AInv.larg {w wr : World} {n la lh : Nat} {L : Nat → Nat} {Z : Nat → Nat → Int} {Y : Nat → Int} {H0 : Nat → Bool} {wo : World} {g h : Nat} (hi : AInv w wr n n n L Z) (hL : ∀ i, i < n → L i ≤ 1024)
    (hf : FInv wo wr g la la (fun j => codeN (Y j))) (hv : HInv wr h la la lh H0) :
    ∃ ro rc, LArg wr w.heap.size n (fun i => (i : Int)) ro L rc (fun _ => nn) Z (some ⟨g, 0, none⟩) la Y (some ⟨h, 0, none⟩) (hh lh H0) := by
  have hs : ∀ i, ∃ s, i < n → RecOk wr w.heap.size i (L i) (Z i) s := fun i => by
    by_cases hin : i < n
    · obtain ⟨s, hs⟩ := hi.dn i hin
      exact ⟨s, fun _ => hs⟩
    · exact ⟨(none, 0), fun h => absurd h hin⟩
  obtain ⟨f, hf'⟩ := Classical.skolem.1 hs
  refine ⟨fun i => (f i).1, fun i => (f i).2, ⟨fun i hin => (hf' i hin).1, fun i hin => (hf' i hin).2.ids, hL, fun j hj => ⟨g, rfl, hf.dn j hj⟩, fun j hj => ⟨h, 0, rfl, ?_⟩⟩⟩
  rw [Nat.zero_add, hv.cl j hj]
  simp [hj]

/-- .. and where none is given. -/
theorem AInv.larg0 {w wr : World} {la lh : Nat} {L : Nat → Nat} {Z : Nat → Nat → Int} {Y : Nat → Int} {H0 : Nat → Bool} {wo : World} {g h : Nat} (hi : AInv w wr 1 0 0 L Z)
    (hf : FInv wo wr g la la (fun j => codeN (Y j))) (hv : HInv wr h la la lh H0) :
    LArg wr w.heap.size 1 (fun _ => 0) (fun _ => none) (fun _ => 0) (fun _ => 0) (fun _ => ⟨#[]⟩) Z (some ⟨g, 0, none⟩) la Y (some ⟨h, 0, none⟩) (hh lh H0) := by
  refine ⟨fun i hin => ?_, fun i _ j hj => by omega, fun _ _ => by omega, fun j hj => ⟨g, rfl, hf.dn j hj⟩, fun j hj => ⟨h, 0, rfl, ?_⟩⟩
  · obtain rfl : i = 0 := by omega
    exact hi.zr rfl
  · rw [Nat.zero_add, hv.cl j hj]
    simp [hj]
end Go.Proofs.Ybulkcetq
