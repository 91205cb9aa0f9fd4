/-
  DERIVED. chunk.LawS4046CModel: THE EARLY RETURNS.
-/
import Derived.Test.YbulkcetqProg
import Derived.Test.YbulkcetqCInv
import Derived.WalkKit
import Derived.WalkSpells
import Derived.WalkLawsBesides
namespace Go.Proofs.Ybulkcetq
open Go.RowKit

set_option maxRecDepth 100000 in
set_option maxHeartbeats 1000000 in
theorem cmodel_sizes (w : World) (a0 : Option Addr) (n hc : Nat) (aa : Option Addr) (la ac : Nat) (fl sel : Int) (h : n = 0 ∨ 1024 < n ∨ 1024 < la) :
    Calls Yba.prog 4 #[.slice a0 n hc, .slice aa la ac, .int .u8 fl, .int .u64 sel] w fun e w' => e = .returned (.bool true) ∧ w' = w := by
  by_cases h0 : n = 0
  · subst h0
    go_enter Yba.func4, Yba.ntmps4
    go_wp2
    go_ret
    exact ⟨rfl, rfl⟩
  · have hz1 : ((n : Int) == 0) = false := by rw [beq_eq_false_iff_ne]; omega
    by_cases h1 : 1024 < n
    · have hz2 : decide ((1024 : Int) < (n : Int)) = true := by simp; omega
      go_enter Yba.func4, Yba.ntmps4
      go_wp2
      go_ret
      exact ⟨rfl, rfl⟩
    · have hz2 : decide ((1024 : Int) < (n : Int)) = false := by simp; omega
      have hz3 : decide ((1024 : Int) < (la : Int)) = true := by simp; omega
      go_enter Yba.func4, Yba.ntmps4
      go_wp2
      go_ret
      exact ⟨rfl, rfl⟩

set_option maxRecDepth 100000 in
set_option maxHeartbeats 1000000 in
theorem cmodel_row (w : World) (hb ho n hc : Nat) (A : Nat → Option Addr) (L C : Nat → Nat) (aa : Option Addr) (la ac : Nat) (fl sel : Int) (i0 : Nat)
    (hrow : ∀ i, i < n → w.cell? ⟨hb, ho + i, none⟩ = some (.slice (A i) (L i) (C i))) (hn2 : n ≤ 1024) (hla : la ≤ 1024) (hi : i0 < n) (hbig : 1024 < L i0) (hsm : ∀ i, i < i0 → L i ≤ 1024) :
    Calls Yba.prog 4 #[.slice (some ⟨hb, ho, none⟩) n hc, .slice aa la ac, .int .u8 fl, .int .u64 sel] w fun e w' => e = .returned (.bool true) ∧ w' = w := by
  have hz1 : ((n : Int) == 0) = false := by rw [beq_eq_false_iff_ne]; omega
  have hz2 : decide ((1024 : Int) < (n : Int)) = false := by simp; omega
  have hz3 : decide ((1024 : Int) < (la : Int)) = false := by simp; omega
  go_enter Yba.func4, Yba.ntmps4
  go_wp2
  go_loop [9] (fun i => ∃ k : Nat, k ≤ i0 ∧ i = .int .i64 k) (fun i => n - (intOf i).toNat)
  case atStart => exact ⟨0, Nat.zero_le _, rfl⟩
  case round =>
    obtain ⟨k, hk, rfl⟩ := hrel
    have hc1 := hrow k (by omega)
    by_cases hlt : k < i0
    · have hl := hsm k hlt
      go_wp2
      go_round
      case rel => exact ⟨k + 1, by omega, by go_num⟩
      case measure => simp [intOf]; omega
    · obtain rfl : k = i0 := by omega
      go_wp2
      go_ret
      exact ⟨rfl, rfl⟩

end Go.Proofs.Ybulkcetq
