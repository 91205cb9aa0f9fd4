/-
  DERIVED. protocol.LawS4047BMessage: readPiece, messageOfPiece.
-/
import Derived.Test.YbulkceueRead
namespace Go.Proofs.Ybulkceue
open Go.RowKit

theorem there_new (w : World) (cs : List Value) (t : TypeId) (n : Nat) (h : cs.length = n) : (w.alloc (.cells cs.toArray t)).there w.heap.size 0 n := fun j hj => by
  have hc : (w.alloc (.cells cs.toArray t)).cell? ⟨w.heap.size, 0 + j, none⟩ = cs[j]? := by simp
  refine ⟨?_, by simp⟩
  rw [hc, List.getElem?_eq_getElem (by omega)]
  rfl

theorem cell_mid (w : World) (A C : Obj) (cs : Array Value) (t : TypeId) (o : Nat) : (((w.alloc A).alloc (.cells cs t)).alloc C).cell? ⟨w.heap.size + 1, o, none⟩ = cs[o]? := by
  have e : (w.alloc A).heap.size = w.heap.size + 1 := by simp
  rw [World.cell?_alloc_lt _ _ _ (by simp), ← e, World.cell?_alloc_new]
theorem frozen_mid (w : World) (A C : Obj) (cs : Array Value) (t : TypeId) (o : Nat) : (((w.alloc A).alloc (.cells cs t)).alloc C).frozen? ⟨w.heap.size + 1, o, none⟩ = false := by
  have e : (w.alloc A).heap.size = w.heap.size + 1 := by simp
  rw [World.frozen?_alloc_past _ _ _ (by simp), ← e]
  simp

theorem size76 : (Yba.prog.info? 76).map (·.size) = some 4 := by kernel_rfl

theorem results_cell_slot {fn : Func} {p q : Tmp} {ty : TypeId} (h : fn.results = #[.cell p ty, .tmp q]) (tmps : Array Value) (w : World) (b o : Nat) (cs : List Value) (d : TypeDesc)
    (hp : tmps.getD p undef = .pointer (some ⟨b, o, none⟩)) (hc : w.rangeAt b o cs)
    (hu : Yba.prog.underlying ty = some d) (hd : d.isRow = true) (hi : (Yba.prog.info? ty).map (·.size) = some cs.length) :
    (results fn tmps).run Yba.prog w = .ok (.tuple #[.agg cs.toArray, tmps.getD q undef]) w := by
  have hp' : tmps[p]?.getD undef = .pointer (some ⟨b, o, none⟩) := by simpa using hp
  simp [results, h, hp', asAddr, run_loadVar_mid w b o ty cs d hc hu hd hi]

theorem one4 (a b c : Int) (ao : Option Addr) (n m : Nat) : (#[.int .u64 a, .int .u64 b, .int .u64 c, .slice ao n m] : Array Value).all (·.oneCell') = true :=
  all_oneCell_toArray (cs := [.int .u64 a, .int .u64 b, .int .u64 c, .slice ao n m]) (fun v hv => by simp at hv; rcases hv with rfl | rfl | rfl | rfl <;> rfl)

/-- Many cells stored into one new block. -/
theorem below_setCells {B : Nat} {a : World} {b : Nat} : ∀ {cs : List Value} {w : World} (_ : Below B a w) (_ : B ≤ b) (o : Nat), Below B a (w.setCells b o cs)
  | [], _, h, _, _ => h
  | v :: r, w, h, hb, o => by
    rw [World.setCells]
    exact below_setCells (h.setCell hb v) hb (o + 1)

/-- What readPiece returns: a piece numbered N. -/
def Rd (e : Ending) (N : Nat) : Prop := ∃ (a b : Int) (ao : Option Addr) (n m : Nat) (ok : Bool), e = .returned (.tuple #[.agg #[.int .u64 (N : Int), .int .u64 a, .int .u64 b, .slice ao n m], .bool ok])

set_option maxRecDepth 100000 in
set_option maxHeartbeats 800000 in
theorem read_none (w : World) (ao : Option Addr) (c x : Nat) :
    Calls Yba.prog 15 #[.slice ao 0 c, .int .u64 (x : Int)] w fun e w' => Rd e 0 ∧ Below w.heap.size w w' := by
  go_enter Yba.func15, Yba.ntmps15
  go_wp2_with fail
  refine bodyPost_ret (by simp [results, Yba.results15, go_sem]; try rfl) rfl ?_
  exact ⟨show Rd _ _ from ⟨_, _, _, _, _, _, rfl⟩, (Below.refl _ _).alloc (Nat.le_refl _) _⟩

set_option maxRecDepth 100000 in
set_option maxHeartbeats 800000 in
theorem read_whole (w : World) (b o c x : Nat) (hc2 : 2 ≤ c) (hx : x < 18446744073709551616) (hc : w.cell? ⟨b, o, none⟩ = some (.int .u8 0)) :
    Calls Yba.prog 15 #[.slice (some ⟨b, o, none⟩) 2 c, .int .u64 (x : Int)] w fun e w' => Rd e x ∧ Below w.heap.size w w' := by
  have hblt := World.block_lt_of_cell? _ _ hc
  have hA : ∀ o1 o2 o3, (((w.alloc o1).alloc o2).alloc o3).cell? ⟨b, o, none⟩ = some (.int .u8 0) := fun o1 o2 o3 => by
    have h1 : (w.alloc o1).cell? ⟨b, o, none⟩ = some (.int .u8 0) := by rw [World.cell?_alloc_lt _ _ _ hblt]; exact hc
    have h2 : ((w.alloc o1).alloc o2).cell? ⟨b, o, none⟩ = some (.int .u8 0) := by rw [World.cell?_alloc_lt _ _ _ (World.block_lt_of_cell? _ _ h1)]; exact h1
    rw [World.cell?_alloc_lt _ _ _ (World.block_lt_of_cell? _ _ h2)]; exact h2
  by_cases hx0 : x = 0
  · subst hx0
    go_enter Yba.func15, Yba.ntmps15
    go_wp2_with fail
    refine (check_any _ (w.heap.size + 1) true _ ?h1 ?h2).mono ?h3
    case h1 => rw [cell_mid]; rfl
    case h2 => exact frozen_mid _ _ _ _ _ _
    rintro e w1 ⟨⟨v, rfl⟩, rfl⟩
    go_wp2_with fail
    refine bodyPost_ret (by simp [results, Yba.results15, go_sem]; try rfl) rfl ?_
    exact ⟨show Rd _ _ from ⟨_, _, _, _, _, _, rfl⟩, (((Below.refl _ _).alloc (Nat.le_refl _) _).alloc (by simp) _).alloc (by simp; omega) _⟩
  · have hx2 : ((x : Int) != 0) = true := by rw [bne_iff_ne]; omega
    have hx1 : ((x : Int) == 0) = false := by rw [beq_eq_false_iff_ne]; omega
    go_enter Yba.func15, Yba.ntmps15
    go_wp2_with fail
    refine (check_any _ (w.heap.size + 1) true _ ?k1 ?k2).mono ?k3
    case k1 => rw [cell_mid]; rfl
    case k2 => exact frozen_mid _ _ _ _ _ _
    rintro e w1 ⟨⟨v, rfl⟩, rfl⟩
    go_wp2_with fail
    refine (rest_any _ (w.heap.size + 1) (.slice (some ⟨b, o + 1, none⟩) 1 (c - 1)) _ _ _ rfl ?h4 ?h5).mono ?h6
    case h4 => rw [cell_mid]; rfl
    case h5 => exact frozen_mid _ _ _ _ _ _
    rintro e w1 ⟨rfl, rfl⟩
    go_wp2_with fail
    refine bodyPost_ret (by simp [results, Yba.results15, go_sem]; try rfl) rfl ?_
    exact ⟨show Rd _ _ from ⟨_, _, _, _, _, _, rfl⟩, (((Below.refl _ _).alloc (Nat.le_refl _) _).alloc (by simp) _).alloc (by simp; omega) _⟩

/-- What holds while readPiece reads a numbered piece: its own three blocks. -/
structure RI (w W : World) (b o : Nat) (p0 p1 p2 p3 r0 : Value) (ok : Bool) : Prop where
  bel : Below w.heap.size w W
  hp0 : W.cell? ⟨w.heap.size + 1 + 1, 0, none⟩ = some p0
  hp1 : W.cell? ⟨w.heap.size + 1 + 1, 1, none⟩ = some p1
  hp2 : W.cell? ⟨w.heap.size + 1 + 1, 2, none⟩ = some p2
  hp3 : W.cell? ⟨w.heap.size + 1 + 1, 3, none⟩ = some p3
  hr0 : W.cell? ⟨w.heap.size + 1, 0, none⟩ = some r0
  hr1 : W.cell? ⟨w.heap.size + 1, 1, none⟩ = some (.bool ok)
  fp : ∀ i, W.frozen? ⟨w.heap.size + 1 + 1, i, none⟩ = false
  fr : ∀ i, W.frozen? ⟨w.heap.size + 1, i, none⟩ = false
  th : W.there w.heap.size 0 4
  hb : W.cell? ⟨b, o, none⟩ = some (.int .u8 1)
  lt : b < w.heap.size

theorem far (W : World) (b o b' o' : Nat) (v : Value) (h : b' ≠ b ∨ o' ≠ o) : (W.setCell ⟨b, o, none⟩ v).cell? ⟨b', o', none⟩ = W.cell? ⟨b', o', none⟩ :=
  World.cell?_setCell_other _ _ _ _ (fun e => by
    injection e with e1 e2
    omega)

section
variable {w W : World} {b o : Nat} {p0 p1 p2 p3 r0 : Value} {ok : Bool}

theorem RI.sP0 (h : RI w W b o p0 p1 p2 p3 r0 ok) (v : Value) : RI w (W.setCell ⟨w.heap.size + 1 + 1, 0, none⟩ v) b o v p1 p2 p3 r0 ok := by
  have := h.lt
  exact ⟨h.bel.setCell (show w.heap.size ≤ w.heap.size + 1 + 1 by omega) v, World.cell?_setCell_same _ _ _ h.hp0, by rw [far _ _ _ _ _ _ (.inr (by decide))]; exact h.hp1, by rw [far _ _ _ _ _ _ (.inr (by decide))]; exact h.hp2, by rw [far _ _ _ _ _ _ (.inr (by decide))]; exact h.hp3,
    by rw [far _ _ _ _ _ _ (.inl (by omega))]; exact h.hr0, by rw [far _ _ _ _ _ _ (.inl (by omega))]; exact h.hr1, fun i => by simpa using h.fp i, fun i => by simpa using h.fr i, World.there_setCells h.th _ _ [v], by rw [far _ _ _ _ _ _ (.inl (by omega))]; exact h.hb, h.lt⟩
theorem RI.sP1 (h : RI w W b o p0 p1 p2 p3 r0 ok) (v : Value) : RI w (W.setCell ⟨w.heap.size + 1 + 1, 1, none⟩ v) b o p0 v p2 p3 r0 ok := by
  have := h.lt
  exact ⟨h.bel.setCell (show w.heap.size ≤ w.heap.size + 1 + 1 by omega) v, by rw [far _ _ _ _ _ _ (.inr (by decide))]; exact h.hp0, World.cell?_setCell_same _ _ _ h.hp1, by rw [far _ _ _ _ _ _ (.inr (by decide))]; exact h.hp2, by rw [far _ _ _ _ _ _ (.inr (by decide))]; exact h.hp3,
    by rw [far _ _ _ _ _ _ (.inl (by omega))]; exact h.hr0, by rw [far _ _ _ _ _ _ (.inl (by omega))]; exact h.hr1, fun i => by simpa using h.fp i, fun i => by simpa using h.fr i, World.there_setCells h.th _ _ [v], by rw [far _ _ _ _ _ _ (.inl (by omega))]; exact h.hb, h.lt⟩
theorem RI.sP3 (h : RI w W b o p0 p1 p2 p3 r0 ok) (v : Value) : RI w (W.setCell ⟨w.heap.size + 1 + 1, 3, none⟩ v) b o p0 p1 p2 v r0 ok := by
  have := h.lt
  exact ⟨h.bel.setCell (show w.heap.size ≤ w.heap.size + 1 + 1 by omega) v, by rw [far _ _ _ _ _ _ (.inr (by decide))]; exact h.hp0, by rw [far _ _ _ _ _ _ (.inr (by decide))]; exact h.hp1, by rw [far _ _ _ _ _ _ (.inr (by decide))]; exact h.hp2, World.cell?_setCell_same _ _ _ h.hp3,
    by rw [far _ _ _ _ _ _ (.inl (by omega))]; exact h.hr0, by rw [far _ _ _ _ _ _ (.inl (by omega))]; exact h.hr1, fun i => by simpa using h.fp i, fun i => by simpa using h.fr i, World.there_setCells h.th _ _ [v], by rw [far _ _ _ _ _ _ (.inl (by omega))]; exact h.hb, h.lt⟩
theorem RI.sR0 (h : RI w W b o p0 p1 p2 p3 r0 ok) (v : Value) : RI w (W.setCell ⟨w.heap.size + 1, 0, none⟩ v) b o p0 p1 p2 p3 v ok := by
  have := h.lt
  exact ⟨h.bel.setCell (show w.heap.size ≤ w.heap.size + 1 by omega) v, by rw [far _ _ _ _ _ _ (.inl (by omega))]; exact h.hp0, by rw [far _ _ _ _ _ _ (.inl (by omega))]; exact h.hp1, by rw [far _ _ _ _ _ _ (.inl (by omega))]; exact h.hp2, by rw [far _ _ _ _ _ _ (.inl (by omega))]; exact h.hp3,
    World.cell?_setCell_same _ _ _ h.hr0, by rw [far _ _ _ _ _ _ (.inr (by decide))]; exact h.hr1, fun i => by simpa using h.fp i, fun i => by simpa using h.fr i, World.there_setCells h.th _ _ [v], by rw [far _ _ _ _ _ _ (.inl (by omega))]; exact h.hb, h.lt⟩
theorem RI.sR1 (h : RI w W b o p0 p1 p2 p3 r0 ok) (v : Bool) : RI w (W.setCell ⟨w.heap.size + 1, 1, none⟩ (.bool v)) b o p0 p1 p2 p3 r0 v := by
  have := h.lt
  exact ⟨h.bel.setCell (show w.heap.size ≤ w.heap.size + 1 by omega) _, by rw [far _ _ _ _ _ _ (.inl (by omega))]; exact h.hp0, by rw [far _ _ _ _ _ _ (.inl (by omega))]; exact h.hp1, by rw [far _ _ _ _ _ _ (.inl (by omega))]; exact h.hp2, by rw [far _ _ _ _ _ _ (.inl (by omega))]; exact h.hp3,
    by rw [far _ _ _ _ _ _ (.inr (by decide))]; exact h.hr0, World.cell?_setCell_same _ _ _ h.hr1, fun i => by simpa using h.fp i, fun i => by simpa using h.fr i, World.there_setCells h.th _ _ [.bool v], by rw [far _ _ _ _ _ _ (.inl (by omega))]; exact h.hb, h.lt⟩
theorem RI.below {W' : World} (h : RI w W b o p0 p1 p2 p3 r0 ok) (hb : Below W.heap.size W W') (hs : w.heap.size + 1 + 1 < W.heap.size) : RI w W' b o p0 p1 p2 p3 r0 ok := by
  have k : ∀ bb i, bb < W.heap.size → W'.cell? ⟨bb, i, none⟩ = W.cell? ⟨bb, i, none⟩ := fun bb i hlt => hb.cell (p := ⟨bb, i, none⟩) hlt
  have kf : ∀ bb i, bb < W.heap.size → W'.frozen? ⟨bb, i, none⟩ = W.frozen? ⟨bb, i, none⟩ := fun bb i hlt => hb.frozen (p := ⟨bb, i, none⟩) hlt
  have hl := h.lt
  exact ⟨h.bel.trans (hb.mono h.bel.size), (k _ _ hs).trans h.hp0, (k _ _ hs).trans h.hp1, (k _ _ hs).trans h.hp2, (k _ _ hs).trans h.hp3, (k _ _ (by omega)).trans h.hr0, (k _ _ (by omega)).trans h.hr1,
    fun i => (kf _ _ hs).trans (h.fp i), fun i => (kf _ _ (by omega)).trans (h.fr i), fun j hj => by rw [k _ _ (by omega), kf _ _ (by omega)]; exact h.th j hj, (k _ _ (by omega)).trans h.hb, h.lt⟩
theorem RI.range (h : RI w W b o p0 p1 p2 p3 r0 ok) : W.rangeAt (w.heap.size + 1 + 1) 0 [p0, p1, p2, p3] := fun j v hv => by
  have hj : j < 4 := (List.getElem?_eq_some_iff.1 hv).1
  have hc : j = 0 ∨ j = 1 ∨ j = 2 ∨ j = 3 := by omega
  rw [Nat.zero_add]
  rcases hc with rfl | rfl | rfl | rfl
  · rw [h.hp0]; exact hv
  · rw [h.hp1]; exact hv
  · rw [h.hp2]; exact hv
  · rw [h.hp3]; exact hv
end

set_option maxRecDepth 100000 in
set_option maxHeartbeats 1600000 in
theorem read_numbered (w : World) (b o c x y : Nat) (hc2 : 9 ≤ c) (hcm : c ≤ maxLen) (hy : y < 18446744073709551616) (hc : w.cell? ⟨b, o, none⟩ = some (.int .u8 1))
    (hcell : ∀ j u, (Lib.byteCells (Lib.beBytes 8 y))[j]? = some u → w.cell? ⟨b, o + 1 + j, none⟩ = some u) :
    Calls Yba.prog 15 #[.slice (some ⟨b, o, none⟩) 9 c, .int .u64 (x : Int)] w fun e w' => Rd e y ∧ Below w.heap.size w w' := by
  have hblt := World.block_lt_of_cell? _ _ hc
  have hA : ∀ o1 o2 o3, (((w.alloc o1).alloc o2).alloc o3).cell? ⟨b, o, none⟩ = some (.int .u8 1) := fun o1 o2 o3 => by
    have h1 : (w.alloc o1).cell? ⟨b, o, none⟩ = some (.int .u8 1) := by rw [World.cell?_alloc_lt _ _ _ hblt]; exact hc
    have h2 : ((w.alloc o1).alloc o2).cell? ⟨b, o, none⟩ = some (.int .u8 1) := by rw [World.cell?_alloc_lt _ _ _ (World.block_lt_of_cell? _ _ h1)]; exact h1
    rw [World.cell?_alloc_lt _ _ _ (World.block_lt_of_cell? _ _ h2)]; exact h2
  go_enter Yba.func15, Yba.ntmps15
  go_wp2_with fail
  refine (check_any _ (w.heap.size + 1) true _ ?h1 ?h2).mono ?h3
  case h1 => rw [cell_mid]; rfl
  case h2 => exact frozen_mid _ _ _ _ _ _
  rintro e w1 ⟨⟨v, rfl⟩, rfl⟩
  go_wp2_with fail
  have hbW : Below w.heap.size w (((w.alloc (.cells #[.int .u64 0, .int .u64 0, .int .u64 0, .slice none 0 0] 76)).alloc (.cells #[.slice (some ⟨b, o + 1, none⟩) 8 (c - 1), .bool true] 82)).alloc (.cells #[.int .u64 0, .int .u64 0, .int .u64 0, .slice none 0 0] 76)) :=
    (((Below.refl _ _).alloc (Nat.le_refl _) _).alloc (by simp) _).alloc (by simp; omega) _
  refine (u64_any (((w.alloc (.cells #[.int .u64 0, .int .u64 0, .int .u64 0, .slice none 0 0] 76)).alloc (.cells #[.slice (some ⟨b, o + 1, none⟩) 8 (c - 1), .bool true] 82)).alloc (.cells #[.int .u64 0, .int .u64 0, .int .u64 0, .slice none 0 0] 76)) (w.heap.size + 1) b (o + 1) (c - 1) y (by omega) (by omega) hy ?h4 ?h5 ?h6).mono ?h7
  case h4 => rw [cell_mid]; rfl
  case h5 => exact frozen_mid _ _ _ _ _ _
  case h6 => exact fun j u hj => (hbW.cell (p := ⟨b, o + 1 + j, none⟩) hblt).trans (hcell j u hj)
  rintro e w2 ⟨rfl, w9, ao, n, hb9, rfl⟩
  have hI0 : RI w (((w.alloc (.cells #[.int .u64 0, .int .u64 0, .int .u64 0, .slice none 0 0] 76)).alloc (.cells #[.slice (some ⟨b, o + 1, none⟩) 8 (c - 1), .bool true] 82)).alloc (.cells #[.int .u64 0, .int .u64 0, .int .u64 0, .slice none 0 0] 76)) b o (.int .u64 0) (.int .u64 0) (.int .u64 0) (.slice none 0 0) (.slice (some ⟨b, o + 1, none⟩) 8 (c - 1)) true := by
    have hlast : ∀ i, (((w.alloc (.cells #[.int .u64 0, .int .u64 0, .int .u64 0, .slice none 0 0] 76)).alloc (.cells #[.slice (some ⟨b, o + 1, none⟩) 8 (c - 1), .bool true] 82)).alloc (.cells #[.int .u64 0, .int .u64 0, .int .u64 0, .slice none 0 0] 76)).cell? ⟨w.heap.size + 1 + 1, i, none⟩ = (#[.int .u64 0, .int .u64 0, .int .u64 0, .slice none 0 0] : Array Value)[i]? := fun i => by
      have e : ((w.alloc (.cells #[.int .u64 0, .int .u64 0, .int .u64 0, .slice none 0 0] 76)).alloc (.cells #[.slice (some ⟨b, o + 1, none⟩) 8 (c - 1), .bool true] 82)).heap.size = w.heap.size + 1 + 1 := by simp
      rw [← e, World.cell?_alloc_new]
    have hfl : ∀ i, (((w.alloc (.cells #[.int .u64 0, .int .u64 0, .int .u64 0, .slice none 0 0] 76)).alloc (.cells #[.slice (some ⟨b, o + 1, none⟩) 8 (c - 1), .bool true] 82)).alloc (.cells #[.int .u64 0, .int .u64 0, .int .u64 0, .slice none 0 0] 76)).frozen? ⟨w.heap.size + 1 + 1, i, none⟩ = false := fun i => by
      have e : ((w.alloc (.cells #[.int .u64 0, .int .u64 0, .int .u64 0, .slice none 0 0] 76)).alloc (.cells #[.slice (some ⟨b, o + 1, none⟩) 8 (c - 1), .bool true] 82)).heap.size = w.heap.size + 1 + 1 := by simp
      rw [← e, World.frozen?_alloc_new]
    exact ⟨hbW, hlast 0, hlast 1, hlast 2, hlast 3, by rw [cell_mid]; rfl, by rw [cell_mid]; rfl, hfl, fun i => frozen_mid _ _ _ _ _ _, World.there_alloc (World.there_alloc (there_new w [.int .u64 0, .int .u64 0, .int .u64 0, .slice none 0 0] 76 4 rfl) _) _, hA _ _ _, hblt⟩
  have hI1 := (hI0.below hb9 (by simp)).sR0 (.slice ao 0 n)
  have hI2 := hI1.sP0 (.int .u64 (y : Int))
  clear hI0 hb9 hA hcell hc hbW
  generalize w9.setCell ⟨w.heap.size + 1, 0, none⟩ (.slice ao 0 n) = W1 at *
  obtain ⟨_, a1, _, _, _, a2, a3, a4, a5, _, _, _⟩ := id hI1
  obtain ⟨_, c1, _, _, _, c2, c3, c4, c5, _, _, _⟩ := id hI2
  have a40 := a4 0
  by_cases hy0 : y = 0
  · subst hy0
    go_wp2_with fail
    refine (check_any _ (w.heap.size + 1) true _ c3 (c5 _)).mono ?h8
    rintro e w2 ⟨⟨v, rfl⟩, rfl⟩
    have hI3 := hI2.sR1 (true && false)
    obtain ⟨d0, d1, _, _, _, d2, d3, d4, d5, d6, _, _⟩ := id hI3
    clear a1 a2 a3 a4 a5 a40 c1 c2 c3 c4 c5 hI1 hI2
    generalize (W1.setCell ⟨w.heap.size + 1 + 1, 0, none⟩ (.int .u64 ((0 : Nat) : Int))).setCell ⟨w.heap.size + 1, 1, none⟩ (.bool (true && false)) = W3 at *
    have HT : Hid (W3.there w.heap.size 0 4) := d6
    clear d6
    have tok1 : True := trivial
    go_wp2_with (have _t := tok1; refine wpList_store_mid (by rfl) 76 (.tmp 4) (.tmp 97) (by rfl) w.heap.size 0 #[.int .u64 0, .int .u64 0, .int .u64 0, .slice none 0 0] (by rfl) (by rfl) HT.out size76 (one4 0 0 0 none 0 0) ?_; clear tok1)
    exact bodyPost_ret (results_cell_slot Yba.results15 _ _ w.heap.size 0 [.int .u64 0, .int .u64 0, .int .u64 0, .slice none 0 0] _ rfl (World.rangeAt_setCells_same _ _ _ _ HT.out) Yba.underlying76 rfl size76) rfl ⟨show Rd _ _ from ⟨_, _, _, _, _, _, rfl⟩, below_setCells d0 (Nat.le_refl _) _⟩
  · have hy1 : ((y : Int) == 0) = false := by rw [beq_eq_false_iff_ne]; omega
    have hy2 : ((y : Int) != 0) = true := by rw [bne_iff_ne]; omega
    go_wp2_with fail
    refine (check_any _ (w.heap.size + 1) true _ c3 (c5 _)).mono ?h9
    rintro e w2 ⟨⟨v, rfl⟩, rfl⟩
    have hI3 := hI2.sR1 (true && true)
    obtain ⟨_, d1, _, _, _, d2, d3, d4, d5, _, _, _⟩ := id hI3
    clear a1 a2 a3 a4 a5 a40 c1 c2 c3 c4 c5 hI1 hI2
    generalize (W1.setCell ⟨w.heap.size + 1 + 1, 0, none⟩ (.int .u64 (y : Int))).setCell ⟨w.heap.size + 1, 1, none⟩ (.bool (true && true)) = W3 at *
    go_wp2_with fail
    refine (rest_any _ (w.heap.size + 1) (.slice ao 0 n) _ _ _ rfl d2 (d5 _)).mono ?h10
    rintro e w2 ⟨rfl, rfl⟩
    have hI4 := hI3.sR0 (.slice none 0 0)
    have hI5 := hI4.sP3 (.slice ao 0 n)
    have hI6 := hI5.sP1 (.int .u64 0)
    obtain ⟨_, _, _, _, a1, _, _, a2, _, _, _, _⟩ := id hI4
    obtain ⟨_, _, c1, _, c2, _, _, c3, _, _, c4, _⟩ := id hI5
    obtain ⟨e0, _, _, _, _, _, _, _, _, e6, _, _⟩ := id hI6
    have e1 := hI6.range
    have a20 := a2 3
    have c30 := c3 1
    clear d1 d2 d3 d4 d5 hI3 hI4 hI5 hI6 a2 c3
    generalize hW5 : (W3.setCell ⟨w.heap.size + 1, 0, none⟩ (.slice none 0 0)).setCell ⟨w.heap.size + 1 + 1, 3, none⟩ (.slice ao 0 n) = W5 at *
    have HR : Hid ((W5.setCell ⟨w.heap.size + 1 + 1, 1, none⟩ (.int .u64 0)).rangeAt (w.heap.size + 1 + 1) 0 [.int .u64 (y : Int), .int .u64 0, .int .u64 0, .slice ao 0 n]) := e1
    have HT : Hid ((W5.setCell ⟨w.heap.size + 1 + 1, 1, none⟩ (.int .u64 0)).there w.heap.size 0 4) := e6
    clear e1 e6
    have tok1 : True := trivial
    have tok2 : True := trivial
    go_wp2_with (first
      | (have _t := tok1; refine wpList_load_mid (by rfl) 76 (.tmp 7) (by rfl) (w.heap.size + 1 + 1) 0 (by rfl) [.int .u64 (y : Int), .int .u64 0, .int .u64 0, .slice ao 0 n] _ HR.out Yba.underlying76 rfl size76 ?_; clear tok1)
      | (have _t := tok2; refine wpList_store_mid (by rfl) 76 (.tmp 4) (.tmp 109) (by rfl) w.heap.size 0 #[.int .u64 (y : Int), .int .u64 0, .int .u64 0, .slice ao 0 n] (by rfl) (by rfl) HT.out size76 (one4 _ 0 0 ao 0 n) ?_; clear tok2))
    exact bodyPost_ret (results_cell_slot Yba.results15 _ _ w.heap.size 0 [.int .u64 (y : Int), .int .u64 0, .int .u64 0, .slice ao 0 n] _ rfl (World.rangeAt_setCells_same _ _ _ _ HT.out) Yba.underlying76 rfl size76) rfl ⟨show Rd _ _ from ⟨_, _, _, _, _, _, rfl⟩, below_setCells e0 (Nat.le_refl _) _⟩
end Go.Proofs.Ybulkceue
