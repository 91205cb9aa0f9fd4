/-
  DERIVED. (chunk.Manifest).Distinct: WHAT HOLDS OF ITS OWN MEMORY, round by round.
-/
import Derived.Test.YbulkcetqACount
import Derived.Test.YbulkcetqAMaps
import Derived.Maps.AppendAt
namespace Go.Proofs.Ybulkcetq
open Go.RowKit

/-! ### rows told apart -/

theorem own_block {w : World} {S e size : Nat} {v : Value} {n : Nat} {xs : List Value} (h : w.ownsRow S e size v n xs) {g : Nat} (hg : v.ownBlock = some g) : ∃ cur, w.heap[g]? = some (.cells cur e (0, 0)) := by
  obtain ⟨_, ⟨rfl, _⟩ | ⟨g', cap, cur, rfl, _, hh, _⟩⟩ := h
  · simp [Value.ownBlock] at hg
  · simp [Value.ownBlock] at hg
    subst hg
    exact ⟨cur, hh⟩

/-- Rows of two element types lie in two blocks. -/
theorem own_ne {w : World} {S e size S' e' size' : Nat} {v v' : Value} {n n' : Nat} {xs xs' : List Value} (h : w.ownsRow S e size v n xs) (h' : w.ownsRow S' e' size' v' n' xs') (he : e ≠ e') : v.ownBlock = none ∨ v.ownBlock ≠ v'.ownBlock := by
  cases hv : v.ownBlock with
  | none => exact .inl rfl
  | some g =>
    refine .inr (fun hg => ?_)
    obtain ⟨cur, h1⟩ := own_block h hv
    obtain ⟨cur', h2⟩ := own_block h' hg.symm
    rw [h1] at h2
    simp at h2
    exact he h2.2

/-- A row's block is no map. -/
theorem own_map_ne {w : World} {S e size : Nat} {v : Value} {n : Nat} {xs : List Value} (h : w.ownsRow S e size v n xs) {b N : Nat} {vs : Nat → Value} (hm : AtAt w b N vs) : v.ownBlock ≠ some b := fun hv => by
  obtain ⟨cur, h1⟩ := own_block h hv
  obtain ⟨f, ⟨D, ⟨es, clock, hb, _⟩, _⟩, _⟩ := hm
  rw [h1] at hb
  cases hb

theorem ownsRow_below {w w' : World} {B S e size : Nat} {v : Value} {n : Nat} {xs : List Value} (h : w.ownsRow S e size v n xs) (hb : Below B w w') (hB : B = w.heap.size) : w'.ownsRow S e size v n xs := by
  subst hB
  exact h.kept (row := none) ⟨hb.os, hb.tape, hb.output, hb.size, fun k hk _ => hb.block k hk⟩ (by cases v.ownBlock <;> simp)

theorem rangeAt_grown {w w' : World} {row : Option Nat} {b o : Nat} {cs : List Value} (h : w.rangeAt b o cs) (hg : w.grownBy w' row) (hne : some b ≠ row) : w'.rangeAt b o cs := fun j v hv => hg.cell (h j v hv) hne

/-- 'append(ids, id)' lays the id in a block of its own first. -/
theorem bs_id (k : Nat) (W : World) : (Instr.buildSlice 26 1 #[(0, .agg (idC k).toArray)]).run Yba.prog W = .ok (.slice (some ⟨W.heap.size, 0, none⟩) 1 1) (W.alloc (.cells (idC k).toArray 28)) := by kernel_rfl

/-! ### the distinct codes -/

/-- Is code k among the first q? -/
def presC (q : Nat) (cd : Nat → Nat) (k : Nat) : Bool := (List.range q).any fun j => cd j == k
/-- The distinct codes of the first q, in the order of their first places. -/
def ddl : Nat → (Nat → Nat) → List Nat
  | 0, _ => []
  | q + 1, cd => if presC q cd (cd q) then ddl q cd else ddl q cd ++ [cd q]

theorem presC_succ (q : Nat) (cd : Nat → Nat) (k : Nat) : presC (q + 1) cd k = (presC q cd k || cd q == k) := by
  unfold presC
  rw [List.range_succ, List.any_append]
  simp

theorem ddl_length (q : Nat) (cd : Nat → Nat) : (ddl q cd).length ≤ q := by
  induction q with
  | zero => simp [ddl]
  | succ q ih =>
    rw [ddl]
    split
    · omega
    · simp; omega

theorem ddl_mem (q : Nat) (cd : Nat → Nat) (k : Nat) : k ∈ ddl q cd ↔ presC q cd k = true := by
  induction q with
  | zero => simp [ddl, presC]
  | succ q ih =>
    rw [ddl, presC_succ]
    split
    · rename_i hp
      rw [ih]
      constructor
      · intro h; simp [h]
      · intro h
        rw [Bool.or_eq_true] at h
        rcases h with h | h
        · exact h
        · rw [← beq_iff_eq.1 h]; exact hp
    · rw [List.mem_append, ih, List.mem_singleton, Bool.or_eq_true, beq_iff_eq]
      constructor <;> rintro (h | h) <;> simp [h]

theorem ddl_nodup (q : Nat) (cd : Nat → Nat) : (ddl q cd).Nodup := by
  induction q with
  | zero => simp [ddl]
  | succ q ih =>
    rw [ddl]
    split
    · exact ih
    · rename_i hp
      refine List.nodup_append.2 ⟨ih, by simp, fun a ha b hb => ?_⟩
      rw [List.mem_singleton] at hb
      subst hb
      intro e
      subst e
      exact hp ((ddl_mem q cd _).1 ha)

/-- The cells of a list of ids. -/
def idsC (D : List Nat) : List Value := D.flatMap idC
theorem idsC_snoc (D : List Nat) (k : Nat) : idsC (D ++ [k]) = idsC D ++ idC k := by simp [idsC, List.flatMap_append]
theorem idsC_length (D : List Nat) : (idsC D).length = D.length * 32 := by
  induction D with
  | nil => rfl
  | cons a r ih =>
    have e : idsC (a :: r) = idC a ++ idsC r := rfl
    rw [e, List.length_append, idC_length, ih, List.length_cons]
    omega

/-! ### the loop's relation -/

structure DInv (w wr : World) (S bm N : Nat) (D : List Nat) (P : Nat → Bool) (v : Value) (vs : Nat → Value) : Prop where
  bel : Below S w wr
  base : S ≤ bm
  ids : wr.ownsRow S 28 32 v D.length (idsC D)
  at_ : AtAt wr bm N vs
  none_ : ∀ k, k < 6 → P k = false → vs k = .slice none 0 0
  some_ : ∀ k, k < 6 → P k = true → ∃ g l c xs, vs k = .slice (some ⟨g, 0, none⟩) l c ∧ wr.ownsRow S 3 1 (vs k) l xs ∧ l ≤ N
  apart : ∀ k k', k < 6 → k' < 6 → k ≠ k' → P k = true → P k' = true → (vs k).ownBlock ≠ (vs k').ownBlock

variable {w wr wf : World} {S bm N : Nat} {D : List Nat} {P : Nat → Bool} {v : Value} {vs : Nat → Value}

theorem DInv.below (h : DInv w wr S bm N D P v vs) (hb : Below wr.heap.size wr wf) (hS : S ≤ wr.heap.size) : DInv w wf S bm N D P v vs := by
  refine ⟨h.bel.trans (hb.mono hS), h.base, ownsRow_below h.ids hb rfl, h.at_.of_block (hb.block bm h.at_.lt), h.none_, fun k hk hp => ?_, h.apart⟩
  obtain ⟨g, l, c, xs, e, ho, hl⟩ := h.some_ k hk hp
  exact ⟨g, l, c, xs, e, ownsRow_below ho hb rfl, hl⟩

/-- 'ids = append(ids, id)'. -/
theorem DInv.push {w0 : World} {v' : Value} {k : Nat} (h : DInv w w0 S bm N D P v vs) (hg : w0.grownBy wf v.ownBlock) (ho : wf.ownsRow S 28 32 v' (D.length + 1) (idsC D ++ idC k)) (hS : S ≤ w0.heap.size) : DInv w wf S bm N (D ++ [k]) P v' vs := by
  have hne : v.ownBlock ≠ some bm := own_map_ne h.ids h.at_
  refine ⟨h.bel.grown hg hS (fun g hv => (h.ids.lt g hv).1), h.base, by rw [idsC_snoc, List.length_append]; exact ho, h.at_.of_block (hg.block bm h.at_.lt (Ne.symm hne)), h.none_, fun k hk hp => ?_, h.apart⟩
  obtain ⟨g, l, c, xs, e, hr, hl⟩ := h.some_ k hk hp
  exact ⟨g, l, c, xs, e, hr.kept hg (own_ne hr h.ids (by decide)), hl⟩

/-- 'at[id] = append(at[id], i)'. -/
theorem DInv.put {w0 w1 w2 : World} {u v' : Value} {k l : Nat} {xs : List Value} (h : DInv w w0 S bm N D P v vs) (hk : k < 6) (hu : w0.ownsRow S 3 1 u l xs) (huk : vs k = u) (hS : S ≤ w0.heap.size) (hl : l ≤ N)
    (hg1 : w0.grownBy w1 (some bm)) (hs1 : w1.heap.size = w0.heap.size) (hg2 : w1.grownBy w2 u.ownBlock) (ho : w2.ownsRow S 3 1 v' (l + 1) (xs ++ [.int .i64 (N : Int)])) (hloc : v'.ownBlock = u.ownBlock ∨ v'.ownBlock = some w1.heap.size)
    (hA : AtAt wf bm (N + 1) (fun j => if k = j then v' else vs j)) (hg3 : w2.grownBy wf (some bm)) : DInv w wf S bm (N + 1) D (fun j => P j || k == j) v (fun j => if k = j then v' else vs j) := by
  have nb : ∀ {e size : Nat} {x : Value} {n : Nat} {ys : List Value}, w0.ownsRow S e size x n ys → x.ownBlock = none ∨ x.ownBlock ≠ some bm := fun hx => .inr (own_map_ne hx h.at_)
  have keep : ∀ {e size : Nat} {x : Value} {n : Nat} {ys : List Value}, w0.ownsRow S e size x n ys → (x.ownBlock = none ∨ x.ownBlock ≠ u.ownBlock) → wf.ownsRow S e size x n ys := fun hx hne => ((hx.kept hg1 (nb hx)).kept hg2 hne).kept hg3 (nb hx)
  have hune : u.ownBlock ≠ some bm := own_map_ne hu h.at_
  have hvne : v'.ownBlock ≠ some bm := by
    rcases hloc with e | e
    · rw [e]; exact hune
    · rw [e, hs1]
      intro x
      have := h.at_.lt
      injection x with x
      omega
  have hof : wf.ownsRow S 3 1 v' (l + 1) (xs ++ [.int .i64 (N : Int)]) := ho.kept hg3 (.inr hvne)
  refine ⟨((h.bel.grown hg1 hS (fun j hj => by cases hj; exact h.base)).grown hg2 (by omega) (fun j hj => (hu.lt j hj).1)).grown hg3 (by have := hg2.size; omega) (fun j hj => by cases hj; exact h.base), h.base, keep h.ids (own_ne h.ids hu (by decide)), hA, fun j hj hp => ?_, fun j hj hp => ?_, fun j j' hj hj' hne hp hp' => ?_⟩
  · simp only [Bool.or_eq_false_iff, beq_eq_false_iff_ne] at hp
    rw [if_neg hp.2]
    exact h.none_ j hj hp.1
  · by_cases e : k = j
    · subst e
      rw [if_pos rfl]
      have hof' := hof
      obtain ⟨_, ⟨_, h0⟩ | ⟨g, cap, cur, hv, _⟩⟩ := hof'
      · omega
      · exact ⟨g, l + 1, cap, _, hv, hof, by omega⟩
    · rw [if_neg e]
      have hp0 : P j = true := by simpa [e] using hp
      obtain ⟨g, l', c, ys, e1, hr, hl'⟩ := h.some_ j hj hp0
      refine ⟨g, l', c, ys, e1, keep hr ?_, by omega⟩
      cases hPk : P k with
      | true =>
        right
        rw [← huk]
        exact h.apart j k hj hk (Ne.symm e) hp0 hPk
      | false =>
        have := h.none_ k hk hPk
        rw [huk] at this
        subst this
        exact .inr (by rw [e1]; simp [Value.ownBlock])
  · have far : ∀ i, i < 6 → k ≠ i → P i = true → v'.ownBlock ≠ (vs i).ownBlock := fun i hi hki hpi => by
      obtain ⟨g, l', c, ys, e1, hr, _⟩ := h.some_ i hi hpi
      rcases hloc with e | e
      · rw [e]
        cases hPk : P k with
        | true =>
          rw [← huk]
          exact h.apart k i hk hi hki hPk hpi
        | false =>
          have := h.none_ k hk hPk
          rw [huk] at this
          subst this
          rw [e1]; simp [Value.ownBlock]
      · rw [e, hs1]
        intro x
        have := (hr.lt _ x.symm).2
        omega
    by_cases e : k = j
    · subst e
      rw [if_pos rfl, if_neg hne]
      exact far j' hj' hne (by simpa [hne] using hp')
    · rw [if_neg e]
      have hp0 : P j = true := by simpa [e] using hp
      by_cases e' : k = j'
      · subst e'
        rw [if_pos rfl]
        exact Ne.symm (far j hj e hp0)
      · rw [if_neg e']
        exact h.apart j j' hj hj' hne hp0 (by simpa [e'] using hp')

end Go.Proofs.Ybulkcetq
