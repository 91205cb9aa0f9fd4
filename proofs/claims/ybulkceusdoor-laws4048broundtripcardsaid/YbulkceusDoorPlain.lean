/-
  THE PLAIN LAWS OF SEAT b4048aD: a varint that was written is read back; a varint cut short reads as "too short"; zig-zag there and back. No Go in sight.
-/
import Derived.Lib.Varint
import Derived.Lib.VarintDec
import Derived.Lib.Endian
namespace Go.Proofs.YbulkceusDoor
open Go

theorem toU8_toNat {x : Nat} (h : x < 256) : x.toUInt8.toNat = x := by
  have := Lib.toUInt8_mod x
  rwa [Nat.mod_eq_of_lt h] at this

/-- 2 ^ (7 * i) bears at most nine bytes below 2 ^ 64. -/
theorem pow_room {x i : Nat} (hx : 1 ≤ x) (h : x * 2 ^ (7 * i) < 18446744073709551616) : i ≤ 9 := by
  apply Nat.le_of_not_lt
  intro h10
  have h1 : 2 ^ 70 ≤ 2 ^ (7 * i) := Nat.pow_le_pow_right (by decide) (by omega)
  have h2 : 1 * 2 ^ (7 * i) ≤ x * 2 ^ (7 * i) := Nat.mul_le_mul_right _ hx
  have h3 : (2 : Nat) ^ 70 = 1180591620717411303424 := by decide
  omega

theorem step_room {x i : Nat} (h : x * 2 ^ (7 * i) < 18446744073709551616) : x / 128 * 2 ^ (7 * (i + 1)) < 18446744073709551616 := by
  have e : 2 ^ (7 * (i + 1)) = 128 * 2 ^ (7 * i) := by rw [show 7 * (i + 1) = 7 + 7 * i by omega, Nat.pow_add]
  rw [e, ← Nat.mul_assoc]
  exact Nat.lt_of_le_of_lt (Nat.mul_le_mul_right _ (Nat.div_mul_le_self x 128)) h

theorem nine_room {x : Nat} (h : x * 2 ^ (7 * 9) < 18446744073709551616) : x ≤ 1 := by
  have e : (2 : Nat) ^ (7 * 9) = 9223372036854775808 := by decide
  rw [e] at h
  omega

theorem uvarintFrom_uvarint : ∀ (n x i acc : Nat) (r : List UInt8), x < n → i ≤ 9 → x * 2 ^ (7 * i) < 18446744073709551616 →
    Lib.uvarintFrom i acc (Lib.uvarint x ++ r) = (acc + x * 2 ^ (7 * i), (i : Int) + ((Lib.uvarint x).length : Int))
  | 0, x, _, _, _, h, _, _ => absurd h (Nat.not_lt_zero x)
  | n + 1, x, i, acc, r, hn, hi, hx => by
    by_cases h : x < 128
    · rw [Lib.uvarint_small h]
      have hb : x.toUInt8.toNat = x := toU8_toNat (by omega)
      simp only [List.cons_append, List.nil_append, Lib.uvarintFrom, hb]
      rw [if_neg (by omega), if_pos h, if_neg (by
        intro hh
        obtain ⟨h9, h1⟩ := hh
        subst h9
        have := nine_room hx
        omega)]
      rfl
    · rw [Lib.uvarint_big (by omega)]
      have hb : (x % 128 + 128).toUInt8.toNat = x % 128 + 128 := toU8_toNat (by omega)
      simp only [List.cons_append, Lib.uvarintFrom, hb]
      rw [if_neg (by omega), if_neg (by omega)]
      have hs := step_room hx
      have hi' : i + 1 ≤ 9 := pow_room (by omega : 1 ≤ x / 128) hs
      rw [uvarintFrom_uvarint n (x / 128) (i + 1) _ r (by omega) hi' hs]
      have e : 2 ^ (7 * (i + 1)) = 128 * 2 ^ (7 * i) := by rw [show 7 * (i + 1) = 7 + 7 * i by omega, Nat.pow_add]
      have e2 : (x % 128 + 128) % 128 = x % 128 := by omega
      rw [e, e2]
      refine Prod.ext ?_ ?_
      · show acc + x % 128 * 2 ^ (7 * i) + x / 128 * (128 * 2 ^ (7 * i)) = acc + x * 2 ^ (7 * i)
        rw [← Nat.mul_assoc, Nat.add_assoc, ← Nat.add_mul, Nat.mul_comm (x / 128) 128, Nat.mod_add_div]
      · show ((i + 1 : Nat) : Int) + ((Lib.uvarint (x / 128)).length : Int) = (i : Int) + (((Lib.uvarint (x / 128)).length + 1 : Nat) : Int)
        omega

/-- A UVARINT THAT WAS WRITTEN IS READ BACK. -/
theorem uvarintDec_uvarint {x : Nat} (hx : x < 18446744073709551616) (r : List UInt8) :
    Lib.uvarintDec (Lib.uvarint x ++ r) = (x, ((Lib.uvarint x).length : Int)) := by
  rw [Lib.uvarintDec, uvarintFrom_uvarint (x + 1) x 0 0 r (by omega) (by omega) (by simpa using hx)]
  simp

theorem uvarintFrom_short : ∀ (n x i acc k : Nat), x < n → i ≤ 9 → x * 2 ^ (7 * i) < 18446744073709551616 → k < (Lib.uvarint x).length →
    Lib.uvarintFrom i acc ((Lib.uvarint x).take k) = (0, 0)
  | 0, x, _, _, _, h, _, _, _ => absurd h (Nat.not_lt_zero x)
  | n + 1, x, i, acc, 0, _, _, _, _ => by simp [Lib.uvarintFrom]
  | n + 1, x, i, acc, k + 1, hn, hi, hx, hk => by
    by_cases h : x < 128
    · rw [Lib.uvarint_small h] at hk
      simp at hk
    · rw [Lib.uvarint_big (by omega)] at hk ⊢
      have hb : (x % 128 + 128).toUInt8.toNat = x % 128 + 128 := toU8_toNat (by omega)
      simp only [List.take_succ_cons, Lib.uvarintFrom, hb]
      rw [if_neg (by omega), if_neg (by omega)]
      have hs := step_room hx
      have hi' : i + 1 ≤ 9 := pow_room (by omega : 1 ≤ x / 128) hs
      exact uvarintFrom_short n (x / 128) (i + 1) _ k (by omega) hi' hs (by simpa using hk)

/-- A UVARINT CUT SHORT READS AS 'TOO SHORT'. -/
theorem uvarintDec_short {x k : Nat} (hx : x < 18446744073709551616) (hk : k < (Lib.uvarint x).length) :
    Lib.uvarintDec ((Lib.uvarint x).take k) = (0, 0) :=
  uvarintFrom_short (x + 1) x 0 0 k (by omega) (by omega) (by simpa using hx) hk

theorem zigzag_lt {x : Int} (h0 : -9223372036854775808 ≤ x) (h1 : x ≤ 9223372036854775807) : Lib.zigzag x < 18446744073709551616 := by
  unfold Lib.zigzag
  split <;> omega

theorem unzigzag_zigzag (x : Int) : Lib.unzigzag (Lib.zigzag x) = x := by
  unfold Lib.unzigzag Lib.zigzag
  split <;> split <;> omega

theorem varintDec_varint {x : Int} (h0 : -9223372036854775808 ≤ x) (h1 : x ≤ 9223372036854775807) (r : List UInt8) :
    Lib.varintDec (Lib.uvarint (Lib.zigzag x) ++ r) = (x, ((Lib.uvarint (Lib.zigzag x)).length : Int)) := by
  unfold Lib.varintDec
  rw [uvarintDec_uvarint (zigzag_lt h0 h1) r]
  simp only [unzigzag_zigzag]

theorem varintDec_short {x : Int} {k : Nat} (h0 : -9223372036854775808 ≤ x) (h1 : x ≤ 9223372036854775807) (hk : k < (Lib.uvarint (Lib.zigzag x)).length) :
    Lib.varintDec ((Lib.uvarint (Lib.zigzag x)).take k) = (0, 0) := by
  unfold Lib.varintDec
  rw [uvarintDec_short (zigzag_lt h0 h1) hk]
  rfl

/-- The head of a payload: capacity and rate. -/
def hd (cap : Int) (bits : Nat) : List UInt8 := Lib.uvarint (Lib.zigzag cap) ++ Lib.leBytes 8 bits
/-- .. expansion and flag byte. -/
def md (ex : Int) (fl : Nat) : List UInt8 := Lib.uvarint (Lib.zigzag ex) ++ [fl.toUInt8]
/-- .. window and start. -/
def tl (wi st : Nat) : List UInt8 := Lib.uvarint wi ++ Lib.uvarint st

/-- A HEAD CUT SHORT: either no varint is read, or fewer than eight bytes stand behind it. -/
theorem hd_short {cap : Int} {bits k : Nat} (h0 : -9223372036854775808 ≤ cap) (h1 : cap ≤ 9223372036854775807) (hk : k < (hd cap bits).length) :
    (Lib.varintDec ((hd cap bits).take k)).2 ≤ 0 ∨ (0 < (Lib.varintDec ((hd cap bits).take k)).2 ∧ (k : Int) - (Lib.varintDec ((hd cap bits).take k)).2 < 8 ∧ (Lib.varintDec ((hd cap bits).take k)).2 ≤ 10) := by
  have hl : (hd cap bits).length = (Lib.uvarint (Lib.zigzag cap)).length + 8 := by simp [hd, Lib.leBytes_length]
  by_cases h : k < (Lib.uvarint (Lib.zigzag cap)).length
  · left
    rw [hd, List.take_append_of_le_length (by omega), varintDec_short h0 h1 h]
    exact Int.le_refl 0
  · right
    have e : (hd cap bits).take k = Lib.uvarint (Lib.zigzag cap) ++ (Lib.leBytes 8 bits).take (k - (Lib.uvarint (Lib.zigzag cap)).length) := by
      rw [hd, List.take_append, List.take_of_length_le (by omega)]
    rw [e, varintDec_varint h0 h1]
    have h2 := Lib.uvarint_pos (Lib.zigzag cap)
    have h3 := Lib.uvarint_length64 (zigzag_lt h0 h1)
    simp only []
    omega

theorem hd_length (cap : Int) (bits : Nat) : (hd cap bits).length = (Lib.uvarint (Lib.zigzag cap)).length + 8 := by simp [hd, Lib.leBytes_length]

end Go.Proofs.YbulkceusDoor
