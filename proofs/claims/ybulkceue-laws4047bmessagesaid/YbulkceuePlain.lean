/-
  DERIVED. protocol.LawS4047BMessage: PLAIN FUNCTIONS AND LAWS.
-/
import Derived.WalkKit
import Derived.Lib.BitFns
import Derived.Laws.BitsAllLaws
namespace Go.Proofs.Ybulkceue

/-- Bit i of x. -/
def bt (x i : Nat) : Bool := decide (x / 2 ^ i % 2 = 1)

/-- The highest of the k lowest bits that is set, counted from 1; 0 where none is. -/
def hi (x : Nat) : Nat → Nat
  | 0 => 0
  | k + 1 => if bt x k then k + 1 else hi x k

theorem hi_le (x : Nat) : ∀ k, hi x k ≤ k
  | 0 => Nat.le_refl _
  | k + 1 => by
    rw [hi]
    split
    · exact Nat.le_refl _
    · exact Nat.le_succ_of_le (hi_le x k)

theorem mod_succ (x k : Nat) : x % 2 ^ (k + 1) = x % 2 ^ k + 2 ^ k * (x / 2 ^ k % 2) := by
  rw [Nat.pow_succ, Nat.mod_mul]

theorem bitLen_one : Lib.bitLen 1 = 1 := by decide +kernel
theorem bitLen_zero : Lib.bitLen 0 = 0 := by decide +kernel

theorem hi_mod (x : Nat) : ∀ k, k ≤ 64 → hi x k = Lib.bitLen (x % 2 ^ k)
  | 0, _ => by rw [hi, Nat.pow_zero, Nat.mod_one, bitLen_zero]
  | k + 1, hk => by
    have ih := hi_mod x k (by omega)
    have hm := mod_succ x k
    have hlt : x % 2 ^ k < 2 ^ k := Nat.mod_lt _ (Nat.two_pow_pos k)
    rw [hi]
    by_cases h : x / 2 ^ k % 2 = 1
    · rw [h, Nat.mul_one] at hm
      have hb : bt x k = true := by simp [bt, h]
      rw [if_pos hb, hm]
      have h1 : 2 ^ k ≤ x % 2 ^ k + 2 ^ k := Nat.le_add_left _ _
      have h2 : x % 2 ^ k + 2 ^ k < 2 ^ 64 := by
        have : x % 2 ^ (k + 1) < 2 ^ (k + 1) := Nat.mod_lt _ (Nat.two_pow_pos _)
        rw [hm] at this
        exact Nat.lt_of_lt_of_le this (Nat.pow_le_pow_right (by decide) hk)
      rw [Lib.bitLen_shift k _ h1 h2]
      have h3 : (x % 2 ^ k + 2 ^ k) / 2 ^ k = 1 := by
        rw [Nat.add_div_right _ (Nat.two_pow_pos k), Nat.div_eq_of_lt hlt]
      rw [h3, bitLen_one]
    · have h0 : x / 2 ^ k % 2 = 0 := by omega
      rw [h0, Nat.mul_zero, Nat.add_zero] at hm
      have hb : bt x k = false := by simp [bt, h]
      rw [hb, hm, ih]
      rfl

theorem hi_bitLen (x : Nat) (h : x < 18446744073709551616) : hi x 64 = Lib.bitLen x := by
  rw [hi_mod x 64 (Nat.le_refl _), Nat.mod_eq_of_lt (by simpa using h)]

theorem bitLen_le64 (x : Nat) (h : x < 18446744073709551616) : Lib.bitLen x ≤ 64 := Lib.bitLen_le x 64 (Nat.le_refl _) (by simpa using h)

theorem and_one_u64 (z : Int) (h0 : 0 ≤ z) (h1 : z < 18446744073709551616) : bits .and .u64 z 1 = z % 2 := by
  rw [u64_and z 1 h0 h1 (by decide) (by decide)]
  have : z.toNat &&& (1 : Int).toNat = z.toNat % 2 := Nat.and_one_is_mod _
  rw [this]
  omega

/-- The walk's own spelling of a bit's test. -/
theorem bit_test (x i : Nat) (h : x < 18446744073709551616) : (bits .and .u64 ((x : Int) / 2 ^ i) 1 == 0) = !bt x i := by
  have e : ((x : Int) / 2 ^ i) = ((x / 2 ^ i : Nat) : Int) := by simp
  have hlt : x / 2 ^ i < 18446744073709551616 := Nat.lt_of_le_of_lt (Nat.div_le_self _ _) h
  rw [e]
  unfold bt
  generalize x / 2 ^ i = y at hlt
  rw [and_one_u64 _ (by omega) (by omega)]
  rcases (show y % 2 = 0 ∨ y % 2 = 1 by omega) with h | h
  · have : ((y : Int) % 2) = 0 := by omega
    rw [this, h]; rfl
  · have : ((y : Int) % 2) = 1 := by omega
    rw [this, h]; rfl

/-- 'above &^ 1' is a uint64. -/
theorem andNot_u64 (z : Int) (h0 : 0 ≤ z) (h1 : z ≤ 18446744073709551615) : ∃ ab : Nat, bits .andNot .u64 z 1 = (ab : Int) ∧ ab < 18446744073709551616 := by
  refine ⟨_, u64_andNot z 1 h0 (by omega) (by decide) (by decide), ?_⟩
  exact Nat.lt_of_le_of_lt Nat.and_le_left (by omega)
end Go.Proofs.Ybulkceue
