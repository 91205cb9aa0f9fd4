/-
  DERIVED. chunk.zzs4046cname, (*chunk.puller).viable: THE WALKS.
-/
import Derived.Test.YbulkcetqProg
import Derived.Test.YbulkcetqCMaps
import Derived.WalkKit
import Derived.WalkSpells
import Derived.WalkLawsBesides
namespace Go.Proofs.Ybulkcetq
open Go.RowKit

set_option maxHeartbeats 400000 in
theorem name_any (a : Int) (w : World) (h0 : 0 ≤ a) (h4 : a < 4) :
    Calls Yba.prog 8 #[.int .i64 a] w fun e w' => e = .returned (.string (nm a.toNat)) ∧ w' = w := by
  have hc : a = 0 ∨ a = 1 ∨ a = 2 ∨ a = 3 := by omega
  rcases hc with rfl | rfl | rfl | rfl <;>
  · go_enter Yba.func8, Yba.ntmps8
    go_wp2
    go_ret
    exact ⟨rfl, rfl⟩

theorem name_nat (q : Nat) (h4 : q < 4) (w : World) :
    Calls Yba.prog 8 #[.int .i64 (q : Int)] w fun e w' => e = .returned (.string (nm q)) ∧ w' = w :=
  name_any (q : Int) w (by omega) (by omega)

/-- What 'viable' answers: is there a holder among the L listed that is neither asked nor failed? -/
def viab (L : Nat) (X : Nat → Nat) (ab fb : Nat → Bool) : Bool := (List.range L).any fun j => !ab (X j) && !fb (X j)

theorem viab_succ (k : Nat) (X : Nat → Nat) (ab fb : Nat → Bool) : viab (k + 1) X ab fb = (viab k X ab fb || (!ab (X k) && !fb (X k))) := by
  unfold viab
  rw [List.range_succ, List.any_append]
  simp

theorem viab_mono {k L : Nat} (h : k ≤ L) {X : Nat → Nat} {ab fb : Nat → Bool} (hv : viab k X ab fb = true) : viab L X ab fb = true := by
  unfold viab at hv ⊢
  obtain ⟨j, hj, hp⟩ := List.any_eq_true.1 hv
  exact List.any_eq_true.2 ⟨j, List.mem_range.2 (by have := List.mem_range.1 hj; omega), hp⟩

set_option maxRecDepth 100000 in
set_option maxHeartbeats 800000 in
theorem viable_any (pb hb cb n c L bm bp : Nat) (X : Nat → Nat) (ab fb : Nat → Bool) (pr : Nat → Nat) (ro : Option Addr) (rc : Nat) (w : World)
    (hc : c < n) (hL : L ≤ 1024)
    (c2 : w.cell? ⟨pb, 2, none⟩ = some (.slice (some ⟨hb, 0, none⟩) n n))
    (c9 : w.cell? ⟨pb, 10, none⟩ = some (.slice (some ⟨cb, 0, none⟩) n n))
    (c12 : w.cell? ⟨pb, 13, none⟩ = some (.map (some bp)))
    (crow : w.cell? ⟨hb, c, none⟩ = some (.slice ro L rc))
    (cask : w.cell? ⟨cb, c * 4, none⟩ = some (.map (some bm)))
    (hX : ∀ j, j < L → X j < 4)
    (hnames : ∀ j, j < L → ∃ b o, ro = some ⟨b, o, none⟩ ∧ w.cell? ⟨b, o + j, none⟩ = some (.string (nm (X j))))
    (hask : ∀ j, j < 4 → (Instr.lookup 44 (.map (some bm)) (.string (nm j)) false).run Yba.prog w = .ok (.bool (ab j)) w)
    (hpeer : ∀ j, j < 4 → (Instr.lookup 49 (.map (some bp)) (.string (nm j)) false).run Yba.prog w = .ok (.pointer (some ⟨pr j, 0, none⟩)) w)
    (hfail : ∀ j, j < 4 → w.cell? ⟨pr j, 3, none⟩ = some (.bool (fb j))) :
    Calls Yba.prog 9 #[.pointer (some ⟨pb, 0, none⟩), .int .i64 (c : Int)] w fun e w' => e = .returned (.bool (viab L X ab fb)) ∧ w' = w := by
  have HA : Hid (∀ j, j < 4 → (Instr.lookup 44 (.map (some bm)) (.string (nm j)) false).run Yba.prog w = .ok (.bool (ab j)) w) := hask
  have HP : Hid (∀ j, j < 4 → (Instr.lookup 49 (.map (some bp)) (.string (nm j)) false).run Yba.prog w = .ok (.pointer (some ⟨pr j, 0, none⟩)) w) := hpeer
  have HF : Hid (∀ j, j < 4 → w.cell? ⟨pr j, 3, none⟩ = some (.bool (fb j))) := hfail
  have HN : Hid (∀ j, j < L → ∃ b o, ro = some ⟨b, o, none⟩ ∧ w.cell? ⟨b, o + j, none⟩ = some (.string (nm (X j)))) := hnames
  clear hask hpeer hfail hnames
  go_enter Yba.func9, Yba.ntmps9
  go_wp2
  go_loop [15] (fun i => ∃ k : Nat, k ≤ L ∧ i = .int .i64 k ∧ Hid (viab k X ab fb = false)) (fun i => L - (intOf i).toNat)
  case atStart => exact ⟨0, Nat.zero_le _, rfl, rfl⟩
  case round =>
    obtain ⟨k, hk, rfl, HV⟩ := hrel
    by_cases hlt : k < L
    · obtain ⟨b, o, rfl, hname⟩ := HN.out k hlt
      have hx4 := hX k hlt
      have hask := HA.out (X k) hx4
      have hpeer := HP.out (X k) hx4
      have hfail := HF.out (X k) hx4
      have hstep := viab_succ k X ab fb
      rw [HV.out, Bool.false_or] at hstep
      cases ha : ab (X k)
      · cases hf : fb (X k)
        · rw [ha] at hask
          rw [hf] at hfail
          rw [ha, hf] at hstep
          have HS : Hid (viab (k + 1) X ab fb = true) := hstep
          clear hstep ha hf
          go_wp2
          go_ret
          rw [viab_mono hlt HS.out]
          exact ⟨rfl, rfl⟩
        · rw [ha] at hask
          rw [hf] at hfail
          rw [ha, hf] at hstep
          have HS : Hid (viab (k + 1) X ab fb = false) := hstep
          clear hstep ha hf
          go_wp2
          go_round
          case rel => exact ⟨k + 1, by omega, by go_num, HS⟩
          case measure => simp [intOf]; omega
      · rw [ha] at hask
        rw [ha] at hstep
        have HS : Hid (viab (k + 1) X ab fb = false) := hstep
        clear hstep ha
        go_wp2
        go_round
        case rel => exact ⟨k + 1, by omega, by go_num, HS⟩
        case measure => simp [intOf]; omega
    · obtain rfl : k = L := by omega
      go_wp2
      go_ret
      rw [HV.out]
      exact ⟨rfl, rfl⟩
end Go.Proofs.Ybulkcetq
