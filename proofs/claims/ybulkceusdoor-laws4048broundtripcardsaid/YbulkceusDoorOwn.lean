/-
  DERIVED. What both laws lean on: the bytes that the writer handed back, as the reader takes them; the mask; a sentinel against itself.
-/
import Derived.Test.YbulkceusDoorEnc
import Derived.Test.YbulkceusDoorDec
import Derived.Laws.BitsAllLaws
import Derived.LaidEql
namespace Go.Proofs.YbulkceusDoor
open Go.RowKit

/-- A slice of its own that is not empty: where it lies, and its bytes. -/
theorem own_bytes {w : World} {B : Nat} {v : Value} {l : List UInt8} (h : w.ownsRow B 5 1 v l.length (Lib.byteCells l)) (hl : 0 < l.length) :
    ∃ g c, v = .slice (some ⟨g, 0, none⟩) l.length c ∧ B ≤ g ∧ g < w.heap.size ∧ l.length ≤ c ∧ c ≤ 9223372036854775807 ∧ Bytes w g 0 l := by
  obtain ⟨_, h2⟩ := id h
  rcases h2 with ⟨_, h0⟩ | ⟨g, c, cur, rfl, hb, hg, hn, hm, hs, ht⟩
  · omega
  · refine ⟨g, c, rfl, hb, (Array.getElem?_eq_some_iff.1 hg).1, hn, by unfold maxLen at hm; omega, fun j hj => ?_⟩
    rw [Nat.zero_add, h.cellAt j (by omega)]
    simp [Lib.byteCells, hj]

theorem Bytes.take {w : World} {g o k : Nat} {l : List UInt8} (h : Bytes w g o l) : Bytes w g o (l.take k) := by
  intro j hj
  have hj' : j < l.length := by simp at hj; omega
  rw [h j hj']
  simp

theorem mask63 (x : Nat) (hx : x < 18446744073709551616) : bits .and .u64 (x : Int) 9223372036854775807 = ((x % 9223372036854775808 : Nat) : Int) := by
  rw [u64_and _ _ (by omega) (by omega) (by decide) (by decide)]
  have e : ((9223372036854775807 : Int)).toNat = 2 ^ 63 - 1 := by decide
  rw [e, Int.toNat_natCast, Nat.and_two_pow_sub_one_eq_mod]

theorem comp46 : (Ybad.prog.info? 46).map (·.comparable) = some true := by kernel_rfl
theorem size67 : (Ybad.prog.info? 67).map (·.size) = some 1 := by kernel_rfl

/-- A sentinel against itself: '!=' is false. -/
theorem same_err (a : Addr) (w : World) : (binOp .neq 29 (.iface 46 (.pointer (some a))) (.iface 46 (.pointer (some a)))).run Ybad.prog w = .ok (.bool false) w := by
  obtain ⟨i, hi, hcmp⟩ := Option.map_eq_some_iff.1 comp46
  obtain ⟨j, hj, _⟩ := Option.map_eq_some_iff.1 size67
  simp only [binOp]
  simp [Op.equal, Op.maxDepth, run_equalIn_iface_ptr_same w 9998 a Ybad.underlying29 Ybad.underlying46 hi hcmp hj]

theorem cfg_new (w : World) (v0 v1 v2 v3 v4 v5 v6 : Value) : Cfg (w.alloc (.cells #[v0, v1, v2, v3, v4, v5, v6] 27)) w.heap.size v0 v1 v2 v3 v4 v5 v6 :=
  ⟨by simp, by simp, by simp, by simp, by simp, by simp, by simp, fun i _ => by simp⟩

end Go.Proofs.YbulkceusDoor
