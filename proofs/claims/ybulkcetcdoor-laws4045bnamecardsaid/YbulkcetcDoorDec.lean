/-
  DERIVED. THE WALK of dialog.zzs4045bdec: the decimal numeral of every int.
-/
import Derived.Test.YbulkcetcDoorProg
import Derived.Test.YbulkcetcDoorPlain
import Derived.WalkKit
import Derived.WalkSpells
import Derived.WalkLawsBesides
namespace Go.Proofs.YbulkcetcDoor
open Go.RowKit

theorem arr43 : Ybad.prog.arrayLen 43 = 24 := by kernel_rfl

/-- 'buf[i:]' with i = 24 - len(L). -/
theorem slice_buf (b n : Nat) (h1 : 1 ≤ n) (hn : n ≤ 24) (W : World) :
    (Instr.sliceAt 43 (.pointer (some ⟨b, 0, none⟩)) (some (.int .i64 (24 - (n : Int)))) none none).run Ybad.prog W = .ok (.slice (some ⟨b, 24 - n, none⟩) n n) W := by
  rw [run_sliceAt_array_l W 43 ⟨b, 0, none⟩ (by simp [Program.arrayLen, Program.elem, Ybad.underlying43]) .i64 (24 - (n : Int)) (by omega) (by rw [arr43]; omega)]
  rw [arr43, show (24 - (n : Int)).toNat = 24 - n by omega]
  have e1 : ¬ 24 = 24 - n := by omega
  have e2 : 24 - (24 - n) = n := by omega
  go_simp

/-- 'string(buf[i:])'. -/
theorem conv_buf (w : World) (L : List UInt8) :
    (convert 23 9 (.slice (some ⟨w.heap.size, 24 - L.length, none⟩) L.length L.length)).run Ybad.prog (w.alloc (.cells (buf L) 43)) = .ok (.string ⟨L.toArray⟩) (w.alloc (.cells (buf L) 43)) := by
  refine run_convert_bytes_back _ 23 9 5 ⟨w.heap.size, 24 - L.length, none⟩ L.length L Ybad.underlying23 Ybad.underlying5 Ybad.underlying9 (fun j hj => ?_)
  rw [show (⟨w.heap.size, 24 - L.length, none⟩ : Addr).add j = ⟨w.heap.size, 24 - L.length + j, none⟩ by simp [Addr.add], World.cell?_alloc_new]
  exact buf_at j hj

theorem byte_digit (v : Nat) : (48 + (v : Int) % 10) = ((UInt8.ofNat (48 + v % 10)).toNat : Int) := by
  rw [UInt8.toNat_ofNat']
  omega

set_option maxHeartbeats 400000 in
theorem dec_pos (u : Nat) (w : World) (hu : 1 ≤ u) (hu2 : u ≤ 9223372036854775807) :
    Calls Ybad.prog 10 #[.int .i64 (u : Int)] w fun e w' => e = .returned (.string ⟨(Lib.decDigits u).toArray⟩) ∧ Below w.heap.size w w' := by
  have hn1 : decide ((u : Int) < 0) = false := by simp
  have hn2 : ((u : Int) == 0) = false := by rw [beq_eq_false_iff_ne]; omega
  go_enter Ybad.func10, Ybad.ntmps10
  go_wp2
  go_loopw [3, 6] (fun m i wr => ∃ (v : Nat) (L : List UInt8), m = .int .u64 v ∧ i = .int .i64 (24 - (L.length : Int)) ∧ L.length ≤ 20 ∧ v ≤ u ∧ Hid (v < 10 ^ (20 - L.length) ∧ dd v ++ L = dd u) ∧ wr = w.alloc (.cells (buf L) 43)) (fun m _ _ => (intOf m).toNat)
  case atStart => exact ⟨u, [], rfl, rfl, by simp, Nat.le_refl _, show _ ∧ _ from ⟨by simp; omega, by simp⟩, rfl⟩
  case round =>
    obtain ⟨v, L, rfl, rfl, hL, hvu, HD, rfl⟩ := hrel
    by_cases hv0 : v = 0
    · subst hv0
      have hlen : 1 ≤ L.length := by
        have h := HD.out.2
        rw [dd_zero, List.nil_append, dd_pos (by omega)] at h
        rw [h, Lib.decDigits_length]
        exact Lib.nDigits_pos u
      have hsl := slice_buf w.heap.size L.length hlen (by omega)
      have hcv := conv_buf w L
      go_wp2
      go_ret
      have h := HD.out.2
      rw [dd_zero, List.nil_append, dd_pos (by omega)] at h
      rw [h]
      exact ⟨rfl, (Below.refl _ _).alloc (Nat.le_refl _) _⟩
    · have hvp : (0 : Int) < v := by omega
      have hd := HD.out.1
      have hlen : L.length < 20 := by
        rcases Nat.lt_or_ge L.length 20 with h | h
        · exact h
        · rw [show 20 - L.length = 0 by omega] at hd; simp at hd; omega
      clear hd
      obtain ⟨x, hx⟩ : ∃ x, (buf L)[24 - L.length - 1]? = some x := ⟨_, Array.getElem?_eq_getElem (by rw [buf_size (by omega)]; omega)⟩
      go_wp2
      go_roundw
      case rel =>
        refine ⟨v / 10, UInt8.ofNat (48 + v % 10) :: L, ?_, ?_, ?_, ?_, ?_, ?_⟩
        · go_num
        · simp; omega
        · simp; omega
        · omega
        · obtain ⟨h1, h2⟩ := HD.out
          refine show _ ∧ _ from ⟨?_, ?_⟩
          · rw [List.length_cons]
            rw [show 20 - L.length = (20 - (L.length + 1)) + 1 by omega, Nat.pow_succ] at h1
            omega
          · rw [dd_step hv0] at h2
            simpa using h2
        · rw [← buf_set _ (by omega), byte_digit v, show 24 - L.length - 1 = 24 - (L.length + 1) by omega]
      case measure => simp [intOf]; omega
set_option maxHeartbeats 400000 in
theorem dec_zero (w : World) :
    Calls Ybad.prog 10 #[.int .i64 0] w fun e w' => e = .returned (.string ⟨(Lib.decDigits 0).toArray⟩) ∧ Below w.heap.size w w' := by
  have hsl : ∀ W, (Instr.sliceAt 43 (.pointer (some ⟨w.heap.size, 0, none⟩)) (some (.int .i64 23)) none none).run Ybad.prog W = .ok (.slice (some ⟨w.heap.size, 23, none⟩) 1 1) W := slice_buf w.heap.size 1 (by decide) (by decide)
  have hcv := conv_buf w [48]
  rw [show 24 - ([48] : List UInt8).length = 23 from rfl, show ([48] : List UInt8).length = 1 from rfl] at hcv
  have eb : buf [48] = #[.int .u8 0, .int .u8 0, .int .u8 0, .int .u8 0, .int .u8 0, .int .u8 0, .int .u8 0, .int .u8 0, .int .u8 0, .int .u8 0, .int .u8 0, .int .u8 0, .int .u8 0, .int .u8 0, .int .u8 0, .int .u8 0, .int .u8 0, .int .u8 0, .int .u8 0, .int .u8 0, .int .u8 0, .int .u8 0, .int .u8 0, .int .u8 48] := rfl
  rw [eb] at hcv
  clear eb
  go_enter Ybad.func10, Ybad.ntmps10
  go_wp2
  refine wp_loop_rounds 1 ?_
  rw [rounds_succ]
  go_wp2
  go_ret
  refine ⟨?_, (Below.refl _ _).alloc (Nat.le_refl _) _⟩
  rw [Lib.decDigits_one (by decide)]
  rfl

set_option maxRecDepth 100000 in
set_option maxHeartbeats 400000 in
theorem dec_neg (u : Nat) (w : World) (hu : 1 ≤ u) (hu2 : u ≤ 9223372036854775808) :
    Calls Ybad.prog 10 #[.int .i64 (-(u : Int))] w fun e w' => e = .returned (.string ⟨(45 :: Lib.decDigits u).toArray⟩) ∧ Below w.heap.size w w' := by
  have hn1 : decide (-(u : Int) < 0) = true := by simp; omega
  have hwr : IntKind.u64.wrap (-IntKind.u64.wrap (-(u : Int))) = (u : Int) := by rw [IntKind.wrap_u64, IntKind.wrap_u64]; omega
  have hn2 : ((u : Int) == 0) = false := by rw [beq_eq_false_iff_ne]; omega
  go_enter Ybad.func10, Ybad.ntmps10
  go_wp2
  go_loopw [3, 6] (fun m i wr => ∃ (v : Nat) (L : List UInt8), m = .int .u64 v ∧ i = .int .i64 (24 - (L.length : Int)) ∧ L.length ≤ 20 ∧ v ≤ u ∧ Hid (v < 10 ^ (20 - L.length) ∧ dd v ++ L = dd u) ∧ wr = w.alloc (.cells (buf L) 43)) (fun m _ _ => (intOf m).toNat)
  case atStart => exact ⟨u, [], rfl, rfl, by simp, Nat.le_refl _, show _ ∧ _ from ⟨by simp; omega, by simp⟩, rfl⟩
  case round =>
    obtain ⟨v, L, rfl, rfl, hL, hvu, HD, rfl⟩ := hrel
    by_cases hv0 : v = 0
    · subst hv0
      have hlen : 1 ≤ L.length := by
        have h := HD.out.2
        rw [dd_zero, List.nil_append, dd_pos (by omega)] at h
        rw [h, Lib.decDigits_length]
        exact Lib.nDigits_pos u
      obtain ⟨x, hx⟩ : ∃ x, (buf L)[24 - L.length - 1]? = some x := ⟨_, Array.getElem?_eq_getElem (by rw [buf_size (by omega)]; omega)⟩
      have hsl : ∀ W, (Instr.sliceAt 43 (.pointer (some ⟨w.heap.size, 0, none⟩)) (some (.int .i64 (24 - (L.length : Int) - 1))) none none).run Ybad.prog W = .ok (.slice (some ⟨w.heap.size, 24 - L.length - 1, none⟩) (L.length + 1) (L.length + 1)) W := fun W => by
        have h := slice_buf w.heap.size (L.length + 1) (by omega) (by omega) W
        rw [show (24 : Int) - ((L.length + 1 : Nat) : Int) = 24 - (L.length : Int) - 1 by omega] at h
        exact h
      have hcv := conv_buf w (45 :: L)
      rw [← buf_set 45 (by omega), List.length_cons, show 24 - (L.length + 1) = 24 - L.length - 1 by omega, show ((45 : UInt8).toNat : Int) = 45 from rfl] at hcv
      go_wp2
      go_ret
      have h := HD.out.2
      rw [dd_zero, List.nil_append, dd_pos (by omega)] at h
      rw [h]
      exact ⟨rfl, (Below.refl _ _).alloc (Nat.le_refl _) _⟩
    · have hvp : (0 : Int) < v := by omega
      have hd := HD.out.1
      have hlen : L.length < 20 := by
        rcases Nat.lt_or_ge L.length 20 with h | h
        · exact h
        · rw [show 20 - L.length = 0 by omega] at hd; simp at hd; omega
      clear hd
      obtain ⟨x, hx⟩ : ∃ x, (buf L)[24 - L.length - 1]? = some x := ⟨_, Array.getElem?_eq_getElem (by rw [buf_size (by omega)]; omega)⟩
      go_wp2
      go_roundw
      case rel =>
        refine ⟨v / 10, UInt8.ofNat (48 + v % 10) :: L, ?_, ?_, ?_, ?_, ?_, ?_⟩
        · go_num
        · simp; omega
        · simp; omega
        · omega
        · obtain ⟨h1, h2⟩ := HD.out
          refine show _ ∧ _ from ⟨?_, ?_⟩
          · rw [List.length_cons]
            rw [show 20 - L.length = (20 - (L.length + 1)) + 1 by omega, Nat.pow_succ] at h1
            omega
          · rw [dd_step hv0] at h2
            simpa using h2
        · rw [← buf_set _ (by omega), byte_digit v, show 24 - L.length - 1 = 24 - (L.length + 1) by omega]
      case measure => simp [intOf]; omega

/-- EVERY int: zzs4045bdec hands back the decimal numeral. -/
theorem dec_any (n : Int) (w : World) (h0 : -9223372036854775808 ≤ n) (h1 : n ≤ 9223372036854775807) :
    Calls Ybad.prog 10 #[.int .i64 n] w fun e w' => e = .returned (.string ⟨(Lib.itoa n).toArray⟩) ∧ Below w.heap.size w w' := by
  by_cases hneg : n < 0
  · obtain ⟨u, rfl⟩ : ∃ u : Nat, n = -(u : Int) := ⟨n.natAbs, by omega⟩
    have e : Lib.itoa (-(u : Int)) = 45 :: Lib.decDigits u := by
      rw [Lib.itoa, if_pos hneg, show (-(u : Int)).natAbs = u by omega]
    rw [e]
    exact dec_neg u w (by omega) (by omega)
  · obtain ⟨u, rfl⟩ : ∃ u : Nat, n = (u : Int) := ⟨n.toNat, by omega⟩
    have e : Lib.itoa (u : Int) = Lib.decDigits u := by
      rw [Lib.itoa, if_neg hneg, Int.toNat_natCast]
    rw [e]
    by_cases hz : u = 0
    · subst hz
      exact dec_zero w
    · exact dec_pos u w (by omega) (by omega)

end Go.Proofs.YbulkcetcDoor
