/-
  DERIVED. THE WALKS of (dialog.State).String and of dialog.LawS4045BName, over the contract of strconv.Itoa (a hypothesis here).
-/
import Derived.Test.YbulkcetcDoorProg
import Derived.Test.YbulkcetcDoorDec
import Derived.WalkKit
import Derived.WalkSpells
import Derived.WalkLawsBesides
namespace Go.Proofs.YbulkcetcDoor
open Go.RowKit

/-- What the walks ask of strconv.Itoa, at one world. -/
def ItoaAt (n : Int) (w : World) : Prop := Calls Ybad.prog 17 #[.int .i64 n] w fun e w' => e = .returned (.string ⟨(Lib.itoa n).toArray⟩) ∧ Below w.heap.size w w'

theorem nDigits_le (u : Nat) (h : u < 18446744073709551616) : Lib.nDigits u ≤ 20 := by
  by_cases h1 : 1 ≤ u
  · have := Lib.numDigits_eq u h1 h
    split at this <;> omega
  · rw [Lib.nDigits_small (by omega)]; decide

theorem itoa_len (n : Int) (h0 : -9223372036854775808 ≤ n) (h1 : n ≤ 9223372036854775807) : (Lib.itoa n).length ≤ 21 := by
  unfold Lib.itoa
  split
  · rw [List.length_cons, Lib.decDigits_length]
    have := nDigits_le n.natAbs (by omega)
    omega
  · rw [Lib.decDigits_length]
    have := nDigits_le n.toNat (by omega)
    omega

abbrev openS : ByteArray := { data := #[83, 116, 97, 116, 101, 40] }
abbrev shutS : ByteArray := { data := #[41] }

set_option maxHeartbeats 400000 in
theorem string_other (n : Int) (w : World) (h0 : -9223372036854775808 ≤ n) (h1 : n ≤ 9223372036854775807) (hn : n < 0 ∨ 4 ≤ n) (hI : ItoaAt n w) :
    Calls Ybad.prog 11 #[.int .i64 n] w fun e w' => e = .returned (.string (openS ++ ⟨(Lib.itoa n).toArray⟩ ++ shutS)) ∧ Below w.heap.size w w' := by
  have hlen := itoa_len n h0 h1
  rcases hn with h | h
  · go_enter Ybad.func11, Ybad.ntmps11
    go_wp2_with (go_at_call 17; refine (show Calls Ybad.prog 17 _ _ _ from hI).mono ?_; rintro e w' ⟨rfl, hb⟩)
    go_ret
    exact ⟨rfl, by assumption⟩
  · go_enter Ybad.func11, Ybad.ntmps11
    go_wp2_with (go_at_call 17; refine (show Calls Ybad.prog 17 _ _ _ from hI).mono ?_; rintro e w' ⟨rfl, hb⟩)
    go_ret
    exact ⟨rfl, by assumption⟩

set_option maxHeartbeats 400000 in
theorem string_name (k : Nat) (hk : k < 4) (s : ByteArray) (w : World) (hc : w.cell? ⟨1, k, none⟩ = some (.string s)) :
    Calls Ybad.prog 11 #[.int .i64 (k : Int)] w fun e w' => e = .returned (.string s) ∧ w' = w := by
  go_enter Ybad.func11, Ybad.ntmps11
  go_wp2
  go_ret
  exact ⟨rfl, rfl⟩

set_option maxHeartbeats 400000 in
theorem law_other (n : Int) (w : World) (h0 : -9223372036854775808 ≤ n) (h1 : n ≤ 9223372036854775807) (hn : n < 0 ∨ 4 ≤ n) (hI : ∀ w', Below w.heap.size w w' → ItoaAt n w') :
    Calls Ybad.prog 5 #[.int .i64 n] w fun e w' => e = .returned (.bool true) ∧ Below w.heap.size w w' := by
  have hlen := itoa_len n h0 h1
  have e0 : (n == 0) = false := by rw [beq_eq_false_iff_ne]; omega
  have e1 : (n == 1) = false := by rw [beq_eq_false_iff_ne]; omega
  have e2 : (n == 2) = false := by rw [beq_eq_false_iff_ne]; omega
  have e3 : (n == 3) = false := by rw [beq_eq_false_iff_ne]; omega
  go_enter Ybad.func5, Ybad.ntmps5
  go_wp2_with fail
  refine (dec_any n w h0 h1).mono ?_
  rintro e w1 ⟨rfl, hb1⟩
  go_wp2_with fail
  refine (string_other n w1 h0 h1 hn (hI w1 hb1)).mono ?_
  rintro e w2 ⟨rfl, hb2⟩
  go_wp2_with fail
  go_ret
  exact ⟨by simp, hb1.trans (hb2.mono hb1.size)⟩

abbrev nm0 : ByteArray := { data := #[69, 97, 114, 108, 121] }
abbrev nm1 : ByteArray := { data := #[67, 111, 110, 102, 105, 114, 109, 101, 100] }
abbrev nm2 : ByteArray := { data := #[77, 111, 114, 116, 97, 108] }
abbrev nm3 : ByteArray := { data := #[84, 101, 114, 109, 105, 110, 97, 116, 101, 100] }

set_option maxHeartbeats 400000 in
theorem law_0 (w : World) (hc : w.cell? ⟨1, 0, none⟩ = some (.string nm0)) :
    Calls Ybad.prog 5 #[.int .i64 0] w fun e w' => e = .returned (.bool true) ∧ Below w.heap.size w w' := by
  go_enter Ybad.func5, Ybad.ntmps5
  go_wp2_with fail
  refine (string_name 0 (by decide) nm0 w hc).mono ?_
  rintro e w2 ⟨rfl, rfl⟩
  go_wp2_with fail
  go_ret
  exact ⟨by simp, Below.refl _ _⟩

set_option maxHeartbeats 400000 in
theorem law_1 (w : World) (hc : w.cell? ⟨1, 1, none⟩ = some (.string nm1)) :
    Calls Ybad.prog 5 #[.int .i64 1] w fun e w' => e = .returned (.bool true) ∧ Below w.heap.size w w' := by
  go_enter Ybad.func5, Ybad.ntmps5
  go_wp2_with fail
  refine (string_name 1 (by decide) nm1 w hc).mono ?_
  rintro e w2 ⟨rfl, rfl⟩
  go_wp2_with fail
  go_ret
  exact ⟨by simp, Below.refl _ _⟩

set_option maxHeartbeats 400000 in
theorem law_2 (w : World) (hc : w.cell? ⟨1, 2, none⟩ = some (.string nm2)) :
    Calls Ybad.prog 5 #[.int .i64 2] w fun e w' => e = .returned (.bool true) ∧ Below w.heap.size w w' := by
  go_enter Ybad.func5, Ybad.ntmps5
  go_wp2_with fail
  refine (string_name 2 (by decide) nm2 w hc).mono ?_
  rintro e w2 ⟨rfl, rfl⟩
  go_wp2_with fail
  go_ret
  exact ⟨by simp, Below.refl _ _⟩

set_option maxHeartbeats 400000 in
theorem law_3 (w : World) (hc : w.cell? ⟨1, 3, none⟩ = some (.string nm3)) :
    Calls Ybad.prog 5 #[.int .i64 3] w fun e w' => e = .returned (.bool true) ∧ Below w.heap.size w w' := by
  go_enter Ybad.func5, Ybad.ntmps5
  go_wp2_with fail
  refine (string_name 3 (by decide) nm3 w hc).mono ?_
  rintro e w2 ⟨rfl, rfl⟩
  go_wp2_with fail
  go_ret
  exact ⟨by simp, Below.refl _ _⟩
end Go.Proofs.YbulkcetcDoor
