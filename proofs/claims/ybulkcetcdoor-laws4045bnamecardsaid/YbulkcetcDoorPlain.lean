/-
  DERIVED. PLAIN FUNCTIONS FOR dialog.zzs4045bdec: the digits as the loop lays them, from the right.
-/
import Derived.Lib.ItoaNum
import Derived.WalkKit
namespace Go.Proofs.YbulkcetcDoor
open Go

/-- The digits of v, none for 0. -/
def dd (v : Nat) : List UInt8 := if v = 0 then [] else Lib.decDigits v

theorem dd_zero : dd 0 = [] := by simp [dd]
theorem dd_pos {v : Nat} (h : v ≠ 0) : dd v = Lib.decDigits v := by simp [dd, h]

theorem dd_step {v : Nat} (h : v ≠ 0) : dd v = dd (v / 10) ++ [UInt8.ofNat (48 + v % 10)] := by
  rw [dd_pos h, Lib.decDigits]
  by_cases h10 : v < 10
  · rw [dif_pos h10, show v / 10 = 0 by omega, dd_zero, Nat.mod_eq_of_lt h10]
    rfl
  · rw [dif_neg h10, dd_pos (by omega)]

/-- The 24 cells of 'buf' when the bytes L lie at its end. -/
def buf (L : List UInt8) : Array Value := (List.replicate (24 - L.length) (Value.int .u8 0) ++ L.map (fun b => Value.int .u8 (b.toNat : Int))).toArray

theorem buf_size {L : List UInt8} (h : L.length ≤ 24) : (buf L).size = 24 := by simp [buf]; omega

theorem buf_set {L : List UInt8} (b : UInt8) (h : L.length < 24) :
    (buf L).setIfInBounds (24 - (L.length + 1)) (.int .u8 (b.toNat : Int)) = buf (b :: L) := by
  unfold buf
  rw [List.setIfInBounds_toArray]
  congr 1
  rw [List.length_cons, show 24 - L.length = (24 - (L.length + 1)) + 1 by omega, List.replicate_succ', List.append_assoc, List.set_append]
  simp

theorem buf_at {L : List UInt8} (j : Nat) (hj : j < L.length) : (buf L)[24 - L.length + j]? = some (.int .u8 ((L[j]).toNat : Int)) := by
  unfold buf
  rw [List.getElem?_toArray, List.getElem?_append_right (by simp)]
  simp [hj]

end Go.Proofs.YbulkcetcDoor
