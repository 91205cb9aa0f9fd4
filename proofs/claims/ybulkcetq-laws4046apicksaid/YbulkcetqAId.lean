/-
  DERIVED. backup.zzs4046aid: THE WALK; the six ids.
-/
import Derived.Test.YbulkcetqProg
import Derived.WalkKit
import Derived.WalkSpells
import Derived.WalkLawsBesides
import Derived.Deep.MidRow
namespace Go.Proofs.Ybulkcetq
open Go.RowKit

/-- 'k ^ 0x5a', k one of 0 .. 5. -/
def xk : Nat → Int
  | 0 => 90
  | 1 => 91
  | 2 => 88
  | 3 => 89
  | 4 => 94
  | _ => 95

/-- The 32 cells of the id that code k picks. -/
def idC (k : Nat) : List Value := .int .u8 (k : Int) :: (List.replicate 30 (.int .u8 0) ++ [.int .u8 (xk k)])
def zeroC : List Value := List.replicate 32 (.int .u8 0)

theorem idC_length (k : Nat) : (idC k).length = 32 := by simp [idC]
theorem idC_one (k : Nat) : ∀ v ∈ idC k, v.oneCell' = true := by
  intro v hv
  simp [idC] at hv
  rcases hv with rfl | rfl | rfl <;> rfl

theorem xor5a (k : Nat) (h : k < 6) : bits BinOp.xor IntKind.u8 (k : Int) 90 = xk k := by
  have hc : ∀ a : Fin 6, bits BinOp.xor IntKind.u8 (a.val : Int) 90 = xk a.val := by decide +kernel
  exact hc ⟨k, h⟩

theorem size28 : (Yba.prog.info? 28).map (·.size) = some 32 := by kernel_rfl

theorem idA_size (k : Nat) : (idC k).toArray.size = 32 := by simp [idC]
theorem size28' (k : Nat) : (Yba.prog.info? 28).map (·.size) = some (idC k).toArray.size := by rw [idA_size]; exact size28
theorem size28'' (k : Nat) : (Yba.prog.info? 28).map (·.size) = some (idC k).length := by rw [idC_length]; exact size28

theorem results_cell_mid {fn : Func} {p : Tmp} {ty : TypeId} (h : fn.results = #[.cell p ty]) (tmps : Array Value) (w : World) (b o : Nat) (cs : List Value) (d : TypeDesc)
    (hp : tmps.getD p undef = .pointer (some ⟨b, o, none⟩)) (hc : w.rangeAt b o cs)
    (hu : Yba.prog.underlying ty = some d) (hd : d.isRow = true) (hi : (Yba.prog.info? ty).map (·.size) = some cs.length) :
    (results fn tmps).run Yba.prog w = .ok (.agg cs.toArray) w := by
  have hp' : tmps[p]?.getD undef = .pointer (some ⟨b, o, none⟩) := by simpa using hp
  simp [results, h, hp', asAddr, run_loadVar_mid w b o ty cs d hc hu hd hi]

/-- Many cells stored into one new block. -/
theorem below_setCells {B : Nat} {a : World} {b : Nat} : ∀ {cs : List Value} {w : World} (_ : Below B a w) (_ : B ≤ b) (o : Nat), Below B a (w.setCells b o cs)
  | [], _, h, _, _ => h
  | v :: r, w, h, hb, o => by
    rw [World.setCells]
    exact below_setCells (h.setCell hb v) hb (o + 1)

theorem size_setCells (b : Nat) : ∀ (cs : List Value) (o : Nat) (w : World), (w.setCells b o cs).heap.size = w.heap.size
  | [], _, _ => rfl
  | v :: r, o, w => by
    rw [World.setCells, size_setCells b r (o + 1)]
    simp

theorem there_new (w : World) (cs : List Value) (t : TypeId) (n : Nat) (h : cs.length = n) : (w.alloc (.cells cs.toArray t)).there w.heap.size 0 n := fun j hj => by
  have hc : (w.alloc (.cells cs.toArray t)).cell? ⟨w.heap.size, 0 + j, none⟩ = cs[j]? := by simp
  refine ⟨?_, by simp⟩
  rw [hc, List.getElem?_eq_getElem (by omega)]
  rfl

set_option maxHeartbeats 400000 in
theorem aid_any (k : Nat) (hk : k < 6) (w : World) :
    Calls Yba.prog 5 #[.int .u8 (k : Int)] w fun e w' => e = .returned (.agg (idC k).toArray) ∧ Below w.heap.size w w' := by
  have hx := xor5a k hk
  have hr : ((w.alloc (.cells zeroC.toArray 28)).alloc (.cells (idC k).toArray 28)).rangeAt (w.heap.size + 1) 0 (idC k) := fun j v hv => by
    simpa using hv
  have ht : ((w.alloc (.cells zeroC.toArray 28)).alloc (.cells (idC k).toArray 28)).there w.heap.size 0 (idC k).toArray.size := by
    rw [idA_size]
    exact World.there_alloc (there_new w zeroC 28 32 rfl) _
  go_enter Yba.func5, Yba.ntmps5
  go_wp2_with (first
    | (refine wpList_load_mid (by rfl) 28 (.tmp 3) (by rfl) (w.heap.size + 1) 0 (by rfl) (idC k) _ hr Yba.underlying28 rfl (size28'' k) ?_)
    | (refine wpList_store_mid (by rfl) 28 (.tmp 2) (.tmp 9) (by rfl) w.heap.size 0 (idC k).toArray (by rfl) (by rfl) ht (size28' k) (all_oneCell_toArray (idC_one k)) ?_))
  have hr2 := World.rangeAt_setCells_same ((w.alloc (.cells zeroC.toArray 28)).alloc (.cells (idC k).toArray 28)) w.heap.size 0 (idC k) (by rw [idC_length]; rw [idA_size] at ht; exact ht)
  exact bodyPost_ret (v := .agg (idC k).toArray) (results_cell_mid Yba.results5 _ _ w.heap.size 0 (idC k) _ rfl hr2 Yba.underlying28 rfl (size28'' k)) rfl
    ⟨rfl, below_setCells (((Below.refl _ _).alloc (Nat.le_refl _) _).alloc (by simp) _) (Nat.le_refl _) _⟩

/-- 'id := x': a new variable of an id's type, and the id stored into it. -/
theorem wpList_store_new_id {ops : Array Oper} {rest : List Oper} {op : Oper} {a : Act} {W : World} {Q : Exit → Act → World → Prop} (hgd : op.guard = none) (x y : Operand) (ho : op.op = .store 28 x y) (w : World) (k : Nat)
    (hW : W = w.alloc (.cells zeroC.toArray 28)) (hx : a.eval x = .pointer (some ⟨w.heap.size, 0, none⟩)) (hy : a.eval y = .agg (idC k).toArray)
    (h : ∀ w', w'.rangeAt w.heap.size 0 (idC k) → Below w.heap.size w w' → w.heap.size < w'.heap.size → wpList Yba.prog ops Q rest (a.put op.dst undef) w') :
    wpList Yba.prog ops Q (op :: rest) a W := by
  subst hW
  have ht : (w.alloc (.cells zeroC.toArray 28)).there w.heap.size 0 32 := there_new w zeroC 28 32 rfl
  refine wpList_store_mid hgd 28 x y ho w.heap.size 0 (idC k).toArray hx hy (by rw [idA_size]; exact ht) (size28' k) (all_oneCell_toArray (idC_one k)) ?_
  refine h _ (World.rangeAt_setCells_same _ _ _ _ (by rw [idC_length]; exact ht)) (below_setCells ((Below.refl _ _).alloc (Nat.le_refl _) _) (Nat.le_refl _) _) ?_
  rw [size_setCells]
  simp

end Go.Proofs.Ybulkcetq
