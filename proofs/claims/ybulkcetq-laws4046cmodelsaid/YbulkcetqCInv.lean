/-
  DERIVED. chunk.LawS4046CModel: WHAT HOLDS OF THE MEMORY THAT THE CALL MAKES, round by round.
-/
import Derived.Test.YbulkcetqCMaps
namespace Go.Proofs.Ybulkcetq
open Go.RowKit

/-- A store elsewhere. -/
theorem cell_far (w : World) (b o b' o' : Nat) (v : Value) (h : b' ≠ b ∨ o' ≠ o) : (w.setCell ⟨b, o, none⟩ v).cell? ⟨b', o', none⟩ = w.cell? ⟨b', o', none⟩ :=
  World.cell?_setCell_other _ _ _ _ (fun e => by
    injection e with e1 e2
    omega)

/-- The name's number that a byte picks. -/
def xx (z : Int) : Nat := (z % 4).toNat

theorem xx_lt (z : Int) : xx z < 4 := by unfold xx; omega

/-- v is a slice over the names of row i; its cells lie behind block B1. -/
def RowOk (wr : World) (B1 Li : Nat) (Zi : Nat → Int) (v : Value) : Prop :=
  ∃ ro rc, v = .slice ro Li rc ∧ ∀ j, j < Li → ∃ b o, ro = some ⟨b, o, none⟩ ∧ B1 < b ∧ wr.cell? ⟨b, o + j, none⟩ = some (.string (nm (xx (Zi j))))

theorem RowOk.of {wr wf : World} {B1 Li : Nat} {Zi : Nat → Int} {v : Value} (h : RowOk wr B1 Li Zi v) (hk : ∀ b o x, B1 < b → wr.cell? ⟨b, o, none⟩ = some x → wf.cell? ⟨b, o, none⟩ = some x) : RowOk wf B1 Li Zi v := by
  obtain ⟨ro, rc, e, hj⟩ := h
  refine ⟨ro, rc, e, fun j hjl => ?_⟩
  obtain ⟨b, o, e1, hb, hc⟩ := hj j hjl
  exact ⟨b, o, e1, hb, hk _ _ _ hb hc⟩

theorem RowOk.own {wr : World} {S B1 Li : Nat} {Zi : Nat → Int} {v : Value} (h : wr.ownsRow S 9 1 v Li ((List.range Li).map fun t => .string (nm (xx (Zi t))))) (hS : B1 < S) : RowOk wr B1 Li Zi v := by
  have h0 := h
  obtain ⟨_, ⟨rfl, rfl⟩ | ⟨g, cap, cur, rfl, hg, _⟩⟩ := h
  · exact ⟨none, 0, rfl, fun j hj => by omega⟩
  · refine ⟨_, _, rfl, fun j hj => ⟨g, 0, rfl, by omega, ?_⟩⟩
    rw [Nat.zero_add, h0.cellAt j (by omega)]
    simp [hj]

/-! ### bits -/

/-- Bit k of m. -/
def bf (m : Int) (k : Nat) : Bool := m / 2 ^ k % 2 == 1
/-- How many of the four bits are set. -/
def cntTo (m : Int) (q : Nat) : Nat := ((List.range q).filter (bf m)).length
/-- The bits below q. -/
def bfTo (m : Int) (q j : Nat) : Bool := decide (j < q) && bf m j
/-- 'm >> q', q one of 0 .. 3, as the walk spells it. -/
def sh (m : Int) : Nat → Int
  | 0 => m
  | 1 => m / 2
  | 2 => m / 4
  | _ => m / 8

theorem sh0 (m : Int) : sh m 0 = m := rfl
theorem sh1 (m : Int) : sh m 1 = m / 2 := rfl
theorem sh2 (m : Int) : sh m 2 = m / 4 := rfl
theorem sh3 (m : Int) : sh m 3 = m / 8 := rfl

theorem shx0 {m z : Int} (h : z % 4 = 0) : sh m (xx z) = m := by unfold xx; rw [h]; rfl
theorem shx1 {m z : Int} (h : z % 4 = 1) : sh m (xx z) = m / 2 := by unfold xx; rw [h]; rfl
theorem shx2 {m z : Int} (h : z % 4 = 2) : sh m (xx z) = m / 4 := by unfold xx; rw [h]; rfl
theorem shx3 {m z : Int} (h : z % 4 = 3) : sh m (xx z) = m / 8 := by unfold xx; rw [h]; rfl

theorem and_one_u8 (E : Int) (h0 : 0 ≤ E) (h1 : E ≤ 255) : bits BinOp.and IntKind.u8 E 1 = E % 2 := by
  obtain ⟨n, rfl⟩ : ∃ n : Nat, E = n := ⟨E.toNat, by omega⟩
  have hc : ∀ a : Fin 256, bits BinOp.and IntKind.u8 (a.val : Int) 1 = (a.val : Int) % 2 := by decide +kernel
  exact hc ⟨n, by omega⟩

theorem sh_eq (m : Int) (q : Nat) (h : q < 4) : sh m q = m / 2 ^ q := by
  have hc : q = 0 ∨ q = 1 ∨ q = 2 ∨ q = 3 := by omega
  rcases hc with rfl | rfl | rfl | rfl <;> simp [sh]

theorem sh_bd (m : Int) (q : Nat) (h0 : 0 ≤ m) (h1 : m ≤ 255) : 0 ≤ sh m q ∧ sh m q ≤ 255 := by
  unfold sh
  split <;> omega

theorem bit_one (m : Int) (q : Nat) (h : q < 4) (h0 : 0 ≤ m) (h1 : m ≤ 255) : (bits BinOp.and IntKind.u8 (sh m q) 1 == 1) = bf m q := by
  have hb := sh_bd m q h0 h1
  rw [and_one_u8 _ hb.1 hb.2, sh_eq m q h]
  rfl

theorem bit_zero (m : Int) (q : Nat) (h : q < 4) (h0 : 0 ≤ m) (h1 : m ≤ 255) : (bits BinOp.and IntKind.u8 (sh m q) 1 == 0) = !bf m q := by
  have hb := sh_bd m q h0 h1
  rw [and_one_u8 _ hb.1 hb.2, sh_eq m q h]
  unfold bf
  generalize m / 2 ^ q = x
  rcases (show x % 2 = 0 ∨ x % 2 = 1 by omega) with e | e <;> rw [e] <;> rfl

theorem cntTo_succ (m : Int) (q : Nat) : cntTo m (q + 1) = cntTo m q + if bf m q then 1 else 0 := by
  unfold cntTo
  rw [List.range_succ, List.filter_append, List.length_append]
  congr 1
  cases h : bf m q <;> simp [h]

theorem cntTo_le (m : Int) (q : Nat) : cntTo m q ≤ q := by
  unfold cntTo
  exact Nat.le_trans (List.length_filter_le _ _) (by simp)

theorem bfTo_four (m : Int) (j : Nat) (h : j < 4) : bfTo m 4 j = bf m j := by simp [bfTo, h]

theorem BoolAt.made (w : World) (m : Int) : BoolAt (w.alloc (.map #[] 0)) w.heap.size (cntTo m 0) (bfTo m 0) := by
  have h := MapAt.made w RB
  unfold BoolAt
  have e : (fun j => if bfTo m 0 j then some (DataW.lit (.bool true)) else none : Nat → Option (DataW Unit)) = fun _ => none := by
    funext j
    simp [bfTo]
  rw [e]
  exact h

/-- The bit is not set: nothing is stored. -/
theorem BoolAt.skip {w : World} {b : Nat} {m : Int} {q : Nat} (h : BoolAt w b (cntTo m q) (bfTo m q)) (hb : bf m q = false) : BoolAt w b (cntTo m (q + 1)) (bfTo m (q + 1)) := by
  rw [cntTo_succ, hb]
  have e : bfTo m (q + 1) = bfTo m q := by
    funext j
    unfold bfTo
    by_cases hj : j = q
    · subst hj
      simp [hb]
    · have : decide (j < q + 1) = decide (j < q) := by
        rw [decide_eq_decide]; omega
      rw [this]
  rw [e]
  exact h

/-- The bit is set: 'am[name] = true'. -/
theorem BoolAt.put {w : World} {b : Nat} {m : Int} {q : Nat} (h : BoolAt w b (cntTo m q) (bfTo m q)) (hq : q < 4) (hb : bf m q = true) :
    ∃ w', (Instr.mapUpdate 44 (.map (some b)) (.string (nm q)) (.bool true)).run Yba.prog w = .ok () w' ∧ BoolAt w' b (cntTo m (q + 1)) (bfTo m (q + 1)) ∧ w.grownBy w' (some b) := by
  have hle := cntTo_le m q
  obtain ⟨w1, hrun, h1, hg⟩ := MapAt.update h Yba.underlying44 (by unfold maxLen; omega) hq (by simp [bfTo]) (RB_mk true)
  refine ⟨w1, hrun, ?_, hg⟩
  rw [cntTo_succ, hb]
  unfold BoolAt
  have e : (fun j => if bfTo m (q + 1) j then some (DataW.lit (.bool true)) else none : Nat → Option (DataW Unit)) = (fun i => if i = q then some (.lit (.bool true)) else if bfTo m q i then some (.lit (.bool true)) else none) := by
    funext j
    by_cases hj : j = q
    · subst hj
      simp [bfTo, hb]
    · have : decide (j < q + 1) = decide (j < q) := by
        rw [decide_eq_decide]; omega
      simp [bfTo, this, hj]
  rw [e]
  exact h1

theorem PeerAt.made (w : World) : PeerAt (w.alloc (.map #[] 0)) w.heap.size 0 (fun _ => 0) := by
  have h := MapAt.made w RP
  unfold PeerAt
  have e : (fun j => if j < 0 then some (DataW.lit (.int .i64 ((fun _ => 0 : Nat → Nat) j : Int))) else none : Nat → Option (DataW Unit)) = fun _ => none := by
    funext j
    simp
  rw [e]
  exact h

/-- 'peers[name] = &holder{..}', the new holder in block p. -/
theorem PeerAt.put {w : World} {b q p : Nat} {pr : Nat → Nat} (h : PeerAt w b q pr) (hq : q < 4) :
    ∃ w', (Instr.mapUpdate 49 (.map (some b)) (.string (nm q)) (.pointer (some ⟨p, 0, none⟩))).run Yba.prog w = .ok () w' ∧ PeerAt w' b (q + 1) (fun j => if j = q then p else pr j) ∧ w.grownBy w' (some b) := by
  obtain ⟨w1, hrun, h1, hg⟩ := MapAt.update h Yba.underlying49 (by unfold maxLen; omega) hq (by simp) (RP_mk p)
  refine ⟨w1, hrun, ?_, hg⟩
  unfold PeerAt
  have e : (fun j => if j < q + 1 then some (DataW.lit (.int .i64 ((fun j => if j = q then p else pr j : Nat → Nat) j : Int))) else none : Nat → Option (DataW Unit)) = (fun i => if i = q then some (.lit (.int .i64 (p : Int))) else if i < q then some (.lit (.int .i64 (pr i : Int))) else none) := by
    funext j
    by_cases hj : j = q
    · subst hj
      simp
    · by_cases hlt : j < q
      · simp [hj, hlt, show j < q + 1 by omega]
      · simp [hj, hlt, show ¬ j < q + 1 by omega]
  rw [e]
  exact h1

theorem PeerAt.alloc {w : World} {b q : Nat} {pr : Nat → Nat} (h : PeerAt w b q pr) (o : Obj) : PeerAt (w.alloc o) b q pr := MapAt.alloc h o

/-- .. at the operation, for the walk. -/
theorem wpList_peer_put (w : World) {ops : Array Oper} {rest : List Oper} {o : Oper} {a : Act} {Q : Exit → Act → World → Prop} (hg : o.guard = none) (m x v : Operand) (hop : o.op = Op.mapUpdate 49 m x v)
    {b q : Nat} {pr : Nat → Nat} (h : PeerAt w b q pr) (p : Nat) (hq : q < 4) (hm : a.eval m = .map (some b)) (hx : a.eval x = .string (nm q)) (hv : a.eval v = .pointer (some ⟨p, 0, none⟩))
    (hK : ∀ w', PeerAt w' b (q + 1) (fun j => if j = q then p else pr j) → w.grownBy w' (some b) → wpList Yba.prog ops Q rest (a.put o.dst undef) w') : wpList Yba.prog ops Q (o :: rest) a w := by
  refine wpList_plain hg fun K' hK' => ?_
  obtain ⟨w1, hrun, h1, h2⟩ := h.put (p := p) hq
  unfold Oper.wp
  simp [execOp, hop, hm, hx, hv, hrun, Result.andThen]
  exact hK' _ _ (hK w1 h1 h2)

/-- One holder more. -/
theorem peers_step {wo wn w5 : World} {S q : Nat} {pr : Nat → Nat} {fl : Int} {o : Obj} (hcell : (wn.alloc o).cell? ⟨wn.heap.size, 3, none⟩ = some (.bool (bf fl q))) (hmap : PeerAt wn S q pr)
    (hpr : ∀ j, j < q → S < pr j ∧ wn.cell? ⟨pr j, 3, none⟩ = some (.bool (bf fl j))) (hbel : Below S wo wn) (hS : S = wo.heap.size) (hg : (wn.alloc o).grownBy w5 (some S)) :
    (∀ j, j < q + 1 → S < (if j = q then wn.heap.size else pr j) ∧ w5.cell? ⟨if j = q then wn.heap.size else pr j, 3, none⟩ = some (.bool (bf fl j))) ∧ Below S wo w5 := by
  have hlt : S < wn.heap.size := MapAt.lt hmap
  refine ⟨fun j hj => ?_, ?_⟩
  · by_cases e : j = q
    · subst e
      rw [if_pos rfl]
      exact ⟨hlt, hg.cell hcell (by simp; omega)⟩
    · rw [if_neg e]
      obtain ⟨h1, h2⟩ := hpr j (by omega)
      refine ⟨h1, hg.cell ?_ (by simp; omega)⟩
      rw [World.cell?_of_block (Below.heap_alloc wn o (pr j) (World.block_lt_of_cell? wn ⟨pr j, 3, none⟩ h2))]
      exact h2
  · subst hS
    exact (hbel.alloc hbel.size o).grown hg (by have := hbel.size; simp; omega) (fun k hk => by cases hk; exact Nat.le_refl _)

/-- The map in block bm is just the set of the names whose bit is set. -/
def AskOk (wr : World) (B1 bm : Nat) (N : Nat) (f : Nat → Bool) : Prop := B1 < bm ∧ BoolAt wr bm N f

/-- THE CALL's OWN MEMORY when the rows below kr and the asked sets below ka are laid (of the one chunk c that is asked for). -/
structure CInv (w wr : World) (B0 B1 n c Lc : Nat) (Zc : Nat → Int) (N : Nat) (f : Nat → Bool) (kr ka : Nat) : Prop where
  bel : Below B0 w wr
  lt0 : B0 < B1
  lt1 : B1 < wr.heap.size
  hc : ∀ j, j < n → ∃ v, wr.cell? ⟨B0, j, none⟩ = some v
  hf : ∀ j, wr.frozen? ⟨B0, j, none⟩ = false
  cc : ∀ j, j < n * 4 → ∃ v, wr.cell? ⟨B1, j, none⟩ = some v
  cf : ∀ j, wr.frozen? ⟨B1, j, none⟩ = false
  row : c < kr → ∃ v, wr.cell? ⟨B0, c, none⟩ = some v ∧ RowOk wr B1 Lc Zc v
  ask : c < ka → ∃ bm, wr.cell? ⟨B1, c * 4, none⟩ = some (.map (some bm)) ∧ AskOk wr B1 bm N f

variable {w wr wf : World} {B0 B1 n c Lc : Nat} {Zc : Nat → Int} {N : Nat} {f : Nat → Bool} {kr ka : Nat}

/-- Nothing that was there has turned. -/
theorem CInv.below (h : CInv w wr B0 B1 n c Lc Zc N f kr ka) (hb : Below wr.heap.size wr wf) : CInv w wf B0 B1 n c Lc Zc N f kr ka := by
  have e0 : B0 < wr.heap.size := Nat.lt_trans h.lt0 h.lt1
  have kc : ∀ b o x, wr.cell? ⟨b, o, none⟩ = some x → wf.cell? ⟨b, o, none⟩ = some x := fun b o x hx => by
    rw [hb.cell (p := ⟨b, o, none⟩) (World.block_lt_of_cell? wr ⟨b, o, none⟩ hx)]
    exact hx
  refine ⟨h.bel.trans (hb.mono (Nat.le_of_lt e0)), h.lt0, Nat.lt_of_lt_of_le h.lt1 hb.size, fun j hj => ?_, fun j => ?_, fun j hj => ?_, fun j => ?_, fun hk => ?_, fun hk => ?_⟩
  · obtain ⟨v, hv⟩ := h.hc j hj
    exact ⟨v, kc _ _ _ hv⟩
  · rw [hb.frozen (p := ⟨B0, j, none⟩) e0]; exact h.hf j
  · obtain ⟨v, hv⟩ := h.cc j hj
    exact ⟨v, kc _ _ _ hv⟩
  · rw [hb.frozen (p := ⟨B1, j, none⟩) h.lt1]; exact h.cf j
  · obtain ⟨v, hv, hr⟩ := h.row hk
    exact ⟨v, kc _ _ _ hv, hr.of (fun b o x _ hx => kc b o x hx)⟩
  · obtain ⟨bm, hv, hb1, ha⟩ := h.ask hk
    exact ⟨bm, kc _ _ _ hv, hb1, MapAt.below ha hb (MapAt.lt ha)⟩

/-- 'holders[kr] = v'. -/
theorem CInv.putRow (h : CInv w wr B0 B1 n c Lc Zc N f kr ka) (hk : kr < n) (v : Value) (hv : kr = c → RowOk wr B1 Lc Zc v) : CInv w (wr.setCell ⟨B0, kr, none⟩ v) B0 B1 n c Lc Zc N f (kr + 1) ka := by
  have hl0 := h.lt0
  have far : ∀ b o, b ≠ B0 → (wr.setCell ⟨B0, kr, none⟩ v).cell? ⟨b, o, none⟩ = wr.cell? ⟨b, o, none⟩ := fun b o hb => cell_far _ _ _ _ _ _ (Or.inl hb)
  obtain ⟨x, hx⟩ := h.hc kr hk
  have same := World.cell?_setCell_same wr ⟨B0, kr, none⟩ v hx
  refine ⟨h.bel.setCell (Nat.le_refl _) _, hl0, by simpa using h.lt1, fun j hj => ?_, fun j => ?_, fun j hj => ?_, fun j => ?_, fun hlt => ?_, fun hlt => ?_⟩
  · by_cases e : j = kr
    · subst e; exact ⟨_, same⟩
    · rw [cell_far _ _ _ _ _ _ (Or.inr e)]; exact h.hc j hj
  · rw [World.frozen?_setCell]; exact h.hf j
  · rw [far _ _ (by omega)]; exact h.cc j hj
  · rw [World.frozen?_setCell]; exact h.cf j
  · by_cases e : kr = c
    · subst e
      exact ⟨v, same, (hv rfl).of (fun b o x hb hx => by rw [far _ _ (by omega)]; exact hx)⟩
    · obtain ⟨u, hu, hr⟩ := h.row (by omega)
      exact ⟨u, by rw [cell_far _ _ _ _ _ _ (by omega)]; exact hu, hr.of (fun b o x hb hx => by rw [far _ _ (by omega)]; exact hx)⟩
  · obtain ⟨bm, hu, hb1, ha⟩ := h.ask hlt
    exact ⟨bm, by rw [far _ _ (by omega)]; exact hu, hb1, MapAt.setCell ha (by simp; omega) _⟩

/-- 'chunks[ka].asked = am'. -/
theorem CInv.putAsk (h : CInv w wr B0 B1 n c Lc Zc N f kr ka) (hk : ka < n) (bm : Nat) (hv : ka = c → AskOk wr B1 bm N f) : CInv w (wr.setCell ⟨B1, ka * 4, none⟩ (.map (some bm))) B0 B1 n c Lc Zc N f kr (ka + 1) := by
  have hl0 := h.lt0
  have far : ∀ b o, b ≠ B1 → (wr.setCell ⟨B1, ka * 4, none⟩ (.map (some bm))).cell? ⟨b, o, none⟩ = wr.cell? ⟨b, o, none⟩ := fun b o hb => cell_far _ _ _ _ _ _ (Or.inl hb)
  obtain ⟨x, hx⟩ := h.cc (ka * 4) (by omega)
  have same := World.cell?_setCell_same wr ⟨B1, ka * 4, none⟩ (.map (some bm)) hx
  refine ⟨h.bel.setCell (by simp; omega) _, hl0, by simpa using h.lt1, fun j hj => ?_, fun j => ?_, fun j hj => ?_, fun j => ?_, fun hlt => ?_, fun hlt => ?_⟩
  · rw [far _ _ (by omega)]; exact h.hc j hj
  · rw [World.frozen?_setCell]; exact h.hf j
  · by_cases e : j = ka * 4
    · subst e; exact ⟨_, same⟩
    · rw [cell_far _ _ _ _ _ _ (by omega)]; exact h.cc j hj
  · rw [World.frozen?_setCell]; exact h.cf j
  · obtain ⟨u, hu, hr⟩ := h.row hlt
    exact ⟨u, by rw [far _ _ (by omega)]; exact hu, hr.of (fun b o x hb hx => by rw [far _ _ (by omega)]; exact hx)⟩
  · by_cases e : ka = c
    · subst e
      obtain ⟨hb1, ha⟩ := hv rfl
      exact ⟨bm, same, hb1, MapAt.setCell ha (by simp; omega) _⟩
    · obtain ⟨bm', hu, hb1, ha⟩ := h.ask (by omega)
      exact ⟨bm', by rw [cell_far _ _ _ _ _ _ (by omega)]; exact hu, hb1, MapAt.setCell ha (by simp; omega) _⟩

/-- Behind the two 'make's. -/
theorem CInv.start {w w1 w2 : World} {n c Lc : Nat} {Zc : Nat → Int} {N : Nat} {f : Nat → Bool} {xs ys : List Value} (h1 : w1.ownsRow w.heap.size 42 1 (.slice (some ⟨w.heap.size, 0, none⟩) n n) n xs) (g1 : w.grownBy w1 none)
    (h2 : w2.ownsRow w1.heap.size 48 4 (.slice (some ⟨w1.heap.size, 0, none⟩) n n) n ys) (g2 : w1.grownBy w2 none) : CInv w w2 w.heap.size w1.heap.size n c Lc Zc N f 0 0 := by
  have l0 : w.heap.size < w1.heap.size := (h1.lt w.heap.size rfl).2
  have l1 : w1.heap.size < w2.heap.size := (h2.lt w1.heap.size rfl).2
  have hk := h1.kept g2 (.inr (by simp [Value.ownBlock]))
  refine ⟨((Below.refl _ _).grown g1 (Nat.le_refl _) (fun _ h => by cases h)).grown g2 (Nat.le_of_lt l0) (fun _ h => by cases h), l0, l1, fun j hj => ?_, fun j => hk.frozenAt j, fun j hj => ?_, fun j => h2.frozenAt j, fun h => by omega, fun h => by omega⟩
  · have e := hk.cellAt j (by omega)
    exact ⟨_, e.trans (List.getElem?_eq_getElem (by rw [h1.1]; omega))⟩
  · have e := h2.cellAt j hj
    exact ⟨_, e.trans (List.getElem?_eq_getElem (by rw [h2.1]; exact hj))⟩

end Go.Proofs.Ybulkcetq
