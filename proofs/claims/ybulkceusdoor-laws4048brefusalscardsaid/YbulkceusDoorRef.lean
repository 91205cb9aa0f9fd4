/-
  DERIVED. journal.LawS4048BRefusals: THE WALKS, one for each way through the switch.
-/
import Derived.Test.YbulkceusDoorOwn
import Derived.Test.YbulkceusDoorDecBad
namespace Go.Proofs.YbulkceusDoor
open Go.RowKit

theorem and1 (x : Nat) (hx : x < 256) : bits .and .u8 (x : Int) 1 = ((x % 2 : Nat) : Int) := by
  rw [u8_and _ _ (by omega) (by omega) (by decide) (by decide)]
  have e : ((1 : Int)).toNat = 2 ^ 1 - 1 := by decide
  rw [e, Int.toNat_natCast, Nat.and_two_pow_sub_one_eq_mod]

set_option maxRecDepth 100000 in
set_option maxHeartbeats 1600000 in
theorem ref0 (s : Nat) (cap : Int) (bits : Nat) (ex : Value) (cut : Nat) (fl xt : Value) (win st : Nat) (pr : Int) (a0 : Addr) (w : World) (hs : s < 256) (hs4 : s % 4 = 0)
    (h0 : -9223372036854775808 ≤ cap) (h1 : cap ≤ 9223372036854775807) (hb : bits < 18446744073709551616) (hct : cut < 256) (hwin : win < 18446744073709551616) (hst : st < 18446744073709551616)
    (hE0 : w.cell? ⟨0, 0, none⟩ = some (.iface 46 (.pointer (some a0)))) :
    Calls Ybad.prog 4 #[.int .u8 (s : Int), .int .i64 cap, .int .u64 (bits : Int), ex, .int .u8 (cut : Int), fl, xt, .int .u64 (win : Int), .int .u64 (st : Int), .int .i64 pr] w fun e w' => e = .returned (.bool true) ∧ Below w.heap.size w w' := by
  have hsel : Int.tmod (s : Int) 4 = 0 := by rw [Int.tmod_eq_emod_of_nonneg (by omega)]; omega
  have hk1 := mask63 win hwin
  have hk2 := mask63 st hst
  have hm1 : win % 9223372036854775808 < 9223372036854775808 := Nat.mod_lt _ (by decide)
  have hm2 : st % 9223372036854775808 < 9223372036854775808 := Nat.mod_lt _ (by decide)
  generalize win % 9223372036854775808 = W at *
  generalize st % 9223372036854775808 = S at *
  have heq := same_err a0
  have HEN := (show Hid (Calls Ybad.prog 5 #[.int .i64 0, .int .i64 cap, .int .u64 bits, .int .i64 0, .int .u8 0, .int .u64 0, .int .u64 0] w (Wrote (hd cap bits) w)) from enc0 cap bits _ _ _ _ w h0 h1 hb)
  have HE0 : Hid (w.cell? ⟨0, 0, none⟩ = some (.iface 46 (.pointer (some a0)))) := hE0
  clear hE0
  go_enter Ybad.func4, Ybad.ntmps4
  go_upto_if 32 with fail
  go_cut [21] (fun v wx => (∃ W' : Nat, v = .int .u64 (W' : Int)) ∧ wx = w)
  case first =>
    by_cases hW0 : W = 0
    · subst hW0
      go_wp2
      go_meet
      case rel => exact ⟨⟨1, rfl⟩, rfl⟩
    · go_wp2
      go_meet
      case rel => exact ⟨⟨W, rfl⟩, rfl⟩
  case rest =>
    obtain ⟨⟨W', rfl⟩, rfl⟩ := hcut
    clear hk1 hm1
    go_wp2_with fail
    refine HEN.out.mono ?_
    clear HEN
    rintro e w1 ⟨v1, rfl, ho1, hb1⟩
    have hl0 : 0 < (hd cap bits).length := by rw [hd_length]; omega
    have hl1 : (hd cap bits).length ≤ 18 := by have := Lib.uvarint_length64 (zigzag_lt h0 h1); rw [hd_length]; omega
    obtain ⟨g, c, rfl, hg1, hg2, hc1, hc2, hB⟩ := own_bytes ho1 hl0
    clear ho1
    obtain ⟨k, hk⟩ : ∃ k, k = cut % (hd cap bits).length := ⟨_, rfl⟩
    have hkl : k < (hd cap bits).length := by rw [hk]; exact Nat.mod_lt _ hl0
    have hrem : Int.tmod (cut : Int) ((hd cap bits).length : Int) = (k : Int) := by rw [Int.tmod_eq_emod_of_nonneg (by omega), hk]; rfl
    have hE1 : w1.cell? ⟨0, 0, none⟩ = some (.iface 46 (.pointer (some a0))) := (hb1.cell (p := ⟨0, 0, none⟩) (World.block_lt_of_cell? _ _ HE0.out)).trans HE0.out
    have HSH := (show Hid _ from hd_short (bits := bits) h0 h1 hkl)
    have HB : Hid (Bytes w1 g 0 ((hd cap bits).take k)) := hB.take
    have HB1 : Hid (Below wc.heap.size wc w1) := hb1
    have HTL : Hid (((hd cap bits).take k).length = k) := show ((hd cap bits).take k).length = k by simp; omega
    clear hk hB hb1
    generalize (hd cap bits).take k = lk at *
    generalize (hd cap bits).length = N at *
    have hsf := store_float 0
    have HBA : Hid (Below wc.heap.size wc (w1.alloc (.cells #[.int .i64 pr, .float .f64 0, .int .i64 0, .bool false, .bool false, .int .i64 pr, .int .i64 pr] 27))) := HB1.out.alloc HB1.out.size _
    have HCA : Hid (Cfg (w1.alloc (.cells #[.int .i64 pr, .float .f64 0, .int .i64 0, .bool false, .bool false, .int .i64 pr, .int .i64 pr] 27)) w1.heap.size (.int .i64 pr) (.float .f64 0) (.int .i64 0) (.bool false) (.bool false) (.int .i64 pr) (.int .i64 pr)) := cfg_new _ _ _ _ _ _ _ _
    have HDS := (show Hid (Calls Ybad.prog 6 #[.slice (some ⟨g, 0, none⟩) k c, .pointer (some ⟨w1.heap.size, 0, none⟩)] (w1.alloc (.cells #[.int .i64 pr, .float .f64 0, .int .i64 0, .bool false, .bool false, .int .i64 pr, .int .i64 pr] 27)) fun e w' => e = .returned (.iface 46 (.pointer (some a0))) ∧ w' = w1.alloc (.cells #[.int .i64 pr, .float .f64 0, .int .i64 0, .bool false, .bool false, .int .i64 pr, .int .i64 pr] 27)) from
      dec_short g 0 k c _ lk _ _ _ _ (HB.out.below ((Below.refl w1.heap.size w1).alloc (Nat.le_refl _) _) hg2) HTL.out rfl HSH.out (by omega)
        ((((Below.refl w1.heap.size w1).alloc (Nat.le_refl _) _).cell (p := ⟨0, 0, none⟩) (World.block_lt_of_cell? _ _ hE1)).trans hE1))
    go_wp2_with fail
    refine HDS.out.mono ?_
    clear HDS
    rintro e w3 ⟨rfl, rfl⟩
    go_wp2
    go_ret
    exact ⟨rfl, HBA.out⟩

set_option maxRecDepth 100000 in
set_option maxHeartbeats 1600000 in
theorem ref1 (s : Nat) (cap : Int) (bits : Nat) (ex : Int) (cut : Value) (fl : Nat) (xt : Value) (win st : Nat) (pr : Int) (a0 : Addr) (w : World) (hs : s < 256) (hs4 : s % 4 = 1)
    (h0 : -9223372036854775808 ≤ cap) (h1 : cap ≤ 9223372036854775807) (hb : bits < 18446744073709551616) (hwin : win < 18446744073709551616) (hst : st < 18446744073709551616)
    (e0 : -9223372036854775808 ≤ ex) (e1 : ex ≤ 9223372036854775807) (hf : fl < 256)
    (hE0 : w.cell? ⟨0, 0, none⟩ = some (.iface 46 (.pointer (some a0)))) :
    Calls Ybad.prog 4 #[.int .u8 (s : Int), .int .i64 cap, .int .u64 (bits : Int), .int .i64 ex, cut, .int .u8 (fl : Int), xt, .int .u64 (win : Int), .int .u64 (st : Int), .int .i64 pr] w fun e w' => e = .returned (.bool true) ∧ Below w.heap.size w w' := by
  have hsel : Int.tmod (s : Int) 4 = 1 := by rw [Int.tmod_eq_emod_of_nonneg (by omega)]; omega
  have hk1 := mask63 win hwin
  have hk2 := mask63 st hst
  have hm1 : win % 9223372036854775808 < 9223372036854775808 := Nat.mod_lt _ (by decide)
  have hm2 : st % 9223372036854775808 < 9223372036854775808 := Nat.mod_lt _ (by decide)
  generalize win % 9223372036854775808 = W at *
  generalize st % 9223372036854775808 = S at *
  have heq := same_err a0
  have HE0 : Hid (w.cell? ⟨0, 0, none⟩ = some (.iface 46 (.pointer (some a0)))) := hE0
  clear hE0
  have hrem : Int.tmod (fl : Int) 254 = ((fl % 254 : Nat) : Int) := by rw [Int.tmod_eq_emod_of_nonneg (by omega)]; rfl
  have hr : fl % 254 < 254 := Nat.mod_lt _ (by decide)
  generalize fl % 254 = r at *
  obtain ⟨F, hF⟩ : ∃ F, F = 2 + r := ⟨_, rfl⟩
  have hF1 : 2 + (r : Int) = (F : Int) := by omega
  have hF2 : 1 < F := by omega
  have hF3 : F < 256 := by omega
  clear hF
  have HEN := (show Hid (Calls Ybad.prog 5 #[.int .i64 1, .int .i64 cap, .int .u64 bits, .int .i64 ex, .int .u8 (F : Int), .int .u64 0, .int .u64 0] w (Wrote (hd cap bits ++ md ex F) w)) from enc1 cap bits ex F _ _ w h0 h1 hb e0 e1 hF3)
  go_enter Ybad.func4, Ybad.ntmps4
  go_upto_if 32 with fail
  go_cut [21] (fun v wx => (∃ W' : Nat, v = .int .u64 (W' : Int) ∧ 1 ≤ W' ∧ W' ≤ 9223372036854775807) ∧ wx = w)
  case first =>
    by_cases hW0 : W = 0
    · subst hW0
      go_wp2
      go_meet
      case rel => exact ⟨⟨1, rfl, by decide, by decide⟩, rfl⟩
    · go_wp2
      go_meet
      case rel => exact ⟨⟨W, rfl, by omega, by omega⟩, rfl⟩
  case rest =>
    obtain ⟨⟨W', rfl, hW1, hW2⟩, rfl⟩ := hcut
    clear hk1 hm1
    go_wp2_with fail
    refine HEN.out.mono ?_
    clear HEN
    rintro e w1 ⟨v1, rfl, ho1, hb1⟩
    have hl0 : 0 < (hd cap bits ++ md ex F).length := by rw [List.length_append, hd_length]; omega
    have hl1 : (hd cap bits ++ md ex F).length ≤ 100 := by
      have := Lib.uvarint_length64 (zigzag_lt h0 h1)
      have := Lib.uvarint_length64 (zigzag_lt e0 e1)
      simp only [md, List.length_append, hd_length, List.length_cons, List.length_nil]; omega
    obtain ⟨g, c, rfl, hg1, hg2, hc1, hc2, hB⟩ := own_bytes ho1 hl0
    have HB1 : Hid (Below wc.heap.size wc w1) := hb1
    clear ho1 hb1
    have hE1 : w1.cell? ⟨0, 0, none⟩ = some (.iface 46 (.pointer (some a0))) := (HB1.out.cell (p := ⟨0, 0, none⟩) (World.block_lt_of_cell? _ _ HE0.out)).trans HE0.out
    have HE1 : Hid ((w1.alloc (.cells #[.int .i64 pr, .float .f64 0, .int .i64 0, .bool false, .bool false, .int .i64 pr, .int .i64 pr] 27)).cell? ⟨0, 0, none⟩ = some (.iface 46 (.pointer (some a0)))) := (((Below.refl w1.heap.size w1).alloc (Nat.le_refl _) _).cell (p := ⟨0, 0, none⟩) (World.block_lt_of_cell? _ _ hE1)).trans hE1
    have hsf := store_float 0
    have HBA : Hid (Below wc.heap.size wc (w1.alloc (.cells #[.int .i64 pr, .float .f64 0, .int .i64 0, .bool false, .bool false, .int .i64 pr, .int .i64 pr] 27))) := HB1.out.alloc HB1.out.size _
    have HCA : Hid (Cfg (w1.alloc (.cells #[.int .i64 pr, .float .f64 0, .int .i64 0, .bool false, .bool false, .int .i64 pr, .int .i64 pr] 27)) w1.heap.size (.int .i64 pr) (.float .f64 0) (.int .i64 0) (.bool false) (.bool false) (.int .i64 pr) (.int .i64 pr)) := cfg_new _ _ _ _ _ _ _ _
    have hB0 : 0 < wc.heap.size := World.block_lt_of_cell? _ _ HE0.out
    have HDS := (show Hid (Calls Ybad.prog 6 #[.slice (some ⟨g, 0, none⟩) (hd cap bits ++ md ex F).length c, .pointer (some ⟨w1.heap.size, 0, none⟩)] (w1.alloc (.cells #[.int .i64 pr, .float .f64 0, .int .i64 0, .bool false, .bool false, .int .i64 pr, .int .i64 pr] 27)) fun e w' => e = .returned (.iface 46 (.pointer (some a0))) ∧ Cfg w' w1.heap.size (.int .i64 cap) (.float .f64 bits) (.int .i64 0) (.bool false) (.bool false) (.int .i64 pr) (.int .i64 pr) ∧ Below wc.heap.size (w1.alloc (.cells #[.int .i64 pr, .float .f64 0, .int .i64 0, .bool false, .bool false, .int .i64 pr, .int .i64 pr] 27)) w') from
      dec_flag wc.heap.size g 0 _ c w1.heap.size cap bits ex F _ _ _ _ _ _ _ _ (hB.below ((Below.refl w1.heap.size w1).alloc (Nat.le_refl _) _) hg2) rfl hl1 hc1 hc2 h0 h1 hb (by omega) (by rw [World.size_alloc]; omega) HB1.out.size HBA.out.size HCA.out e0 e1 hF3 hF2 _ HE1.out hB0)
    clear hB HCA HE1
    generalize (hd cap bits ++ md ex F).length = N at *
    go_wp2_with fail
    refine HDS.out.mono ?_
    clear HDS
    rintro e w3 ⟨rfl, hC3, hB3⟩
    have b5 := hC3.a5
    have b6 := hC3.a6
    have HB3 := (show Hid (Below wc.heap.size wc w3) from HBA.out.trans hB3)
    clear hC3 hB3 HBA
    go_wp2
    go_ret
    exact ⟨rfl, HB3.out⟩

set_option maxRecDepth 100000 in
set_option maxHeartbeats 1600000 in
theorem ref3 (s : Nat) (cap : Int) (bits : Nat) (ex : Int) (cut : Value) (fl : Nat) (xt : Value) (win st : Nat) (pr : Int) (a0 : Addr) (w : World) (hs : s < 256) (hs4 : s % 4 = 3)
    (h0 : -9223372036854775808 ≤ cap) (h1 : cap ≤ 9223372036854775807) (hb : bits < 18446744073709551616) (hwin : win < 18446744073709551616) (hst : st < 18446744073709551616)
    (e0 : -9223372036854775808 ≤ ex) (e1 : ex ≤ 9223372036854775807) (hf : fl < 256)
    (hE0 : w.cell? ⟨1, 0, none⟩ = some (.iface 46 (.pointer (some a0)))) :
    Calls Ybad.prog 4 #[.int .u8 (s : Int), .int .i64 cap, .int .u64 (bits : Int), .int .i64 ex, cut, .int .u8 (fl : Int), xt, .int .u64 (win : Int), .int .u64 (st : Int), .int .i64 pr] w fun e w' => e = .returned (.bool true) ∧ Below w.heap.size w w' := by
  have hsel : Int.tmod (s : Int) 4 = 3 := by rw [Int.tmod_eq_emod_of_nonneg (by omega)]; omega
  have hk1 := mask63 win hwin
  have hk2 := mask63 st hst
  have hm1 : win % 9223372036854775808 < 9223372036854775808 := Nat.mod_lt _ (by decide)
  have hm2 : st % 9223372036854775808 < 9223372036854775808 := Nat.mod_lt _ (by decide)
  generalize win % 9223372036854775808 = W at *
  generalize st % 9223372036854775808 = S at *
  have heq := same_err a0
  have HE0 : Hid (w.cell? ⟨1, 0, none⟩ = some (.iface 46 (.pointer (some a0)))) := hE0
  clear hE0
  have hand : Go.bits .and .u8 (fl : Int) 1 = ((fl % 2 : Nat) : Int) := and1 fl hf
  have hr : fl % 2 < 2 := Nat.mod_lt _ (by decide)
  generalize fl % 2 = F at *
  have hF3 : F < 256 := by omega
  have hF1 : F ≤ 1 := by omega
  have HEN := (show Hid (Calls Ybad.prog 5 #[.int .i64 2, .int .i64 cap, .int .u64 bits, .int .i64 ex, .int .u8 (F : Int), .int .u64 0, .int .u64 (S : Int)] w (Wrote (hd cap bits ++ md ex F ++ tl 0 S) w)) from enc2 cap bits ex F 0 S w h0 h1 hb e0 e1 hF3 (by decide) (by omega))
  go_enter Ybad.func4, Ybad.ntmps4
  go_upto_if 32 with fail
  go_cut [21] (fun v wx => (∃ W' : Nat, v = .int .u64 (W' : Int) ∧ 1 ≤ W' ∧ W' ≤ 9223372036854775807) ∧ wx = w)
  case first =>
    by_cases hW0 : W = 0
    · subst hW0
      go_wp2
      go_meet
      case rel => exact ⟨⟨1, rfl, by decide, by decide⟩, rfl⟩
    · go_wp2
      go_meet
      case rel => exact ⟨⟨W, rfl, by omega, by omega⟩, rfl⟩
  case rest =>
    obtain ⟨⟨W', rfl, hW1, hW2⟩, rfl⟩ := hcut
    clear hk1 hm1
    go_wp2_with fail
    refine HEN.out.mono ?_
    clear HEN
    rintro e w1 ⟨v1, rfl, ho1, hb1⟩
    rw [show (hd cap bits ++ md ex F ++ tl 0 S) = (hd cap bits ++ (Lib.uvarint (Lib.zigzag ex) ++ (F.toUInt8 :: (Lib.uvarint 0 ++ Lib.uvarint S)))) by simp [md, tl]] at ho1
    have hl0 : 0 < (hd cap bits ++ (Lib.uvarint (Lib.zigzag ex) ++ (F.toUInt8 :: (Lib.uvarint 0 ++ Lib.uvarint S)))).length := by rw [List.length_append, hd_length]; omega
    have hl1 : (hd cap bits ++ (Lib.uvarint (Lib.zigzag ex) ++ (F.toUInt8 :: (Lib.uvarint 0 ++ Lib.uvarint S)))).length ≤ 100 := by
      have := Lib.uvarint_length64 (zigzag_lt h0 h1)
      have := Lib.uvarint_length64 (zigzag_lt e0 e1)
      have := Lib.uvarint_length64 (show S < 18446744073709551616 by omega)
      have := Lib.uvarint_length64 (show 0 < 18446744073709551616 by omega)
      simp only [List.length_append, hd_length, List.length_cons]; omega
    obtain ⟨g, c, rfl, hg1, hg2, hc1, hc2, hB⟩ := own_bytes ho1 hl0
    have HB1 : Hid (Below wc.heap.size wc w1) := hb1
    clear ho1 hb1
    have hE1 : w1.cell? ⟨1, 0, none⟩ = some (.iface 46 (.pointer (some a0))) := (HB1.out.cell (p := ⟨1, 0, none⟩) (World.block_lt_of_cell? _ _ HE0.out)).trans HE0.out
    have HE1 : Hid ((w1.alloc (.cells #[.int .i64 pr, .float .f64 0, .int .i64 0, .bool false, .bool false, .int .i64 pr, .int .i64 pr] 27)).cell? ⟨1, 0, none⟩ = some (.iface 46 (.pointer (some a0)))) := (((Below.refl w1.heap.size w1).alloc (Nat.le_refl _) _).cell (p := ⟨1, 0, none⟩) (World.block_lt_of_cell? _ _ hE1)).trans hE1
    have hsf := store_float 0
    have HBA : Hid (Below wc.heap.size wc (w1.alloc (.cells #[.int .i64 pr, .float .f64 0, .int .i64 0, .bool false, .bool false, .int .i64 pr, .int .i64 pr] 27))) := HB1.out.alloc HB1.out.size _
    have HCA : Hid (Cfg (w1.alloc (.cells #[.int .i64 pr, .float .f64 0, .int .i64 0, .bool false, .bool false, .int .i64 pr, .int .i64 pr] 27)) w1.heap.size (.int .i64 pr) (.float .f64 0) (.int .i64 0) (.bool false) (.bool false) (.int .i64 pr) (.int .i64 pr)) := cfg_new _ _ _ _ _ _ _ _
    have hB0 : 1 < wc.heap.size := World.block_lt_of_cell? _ _ HE0.out
    have HDS := (show Hid (Calls Ybad.prog 6 #[.slice (some ⟨g, 0, none⟩) (hd cap bits ++ (Lib.uvarint (Lib.zigzag ex) ++ (F.toUInt8 :: (Lib.uvarint 0 ++ Lib.uvarint S)))).length c, .pointer (some ⟨w1.heap.size, 0, none⟩)] (w1.alloc (.cells #[.int .i64 pr, .float .f64 0, .int .i64 0, .bool false, .bool false, .int .i64 pr, .int .i64 pr] 27)) fun e w' => e = .returned (.iface 46 (.pointer (some a0))) ∧ Cfg w' w1.heap.size (.int .i64 cap) (.float .f64 bits) (.int .i64 ex) (.bool ((F : Int) == 1)) (.bool false) (.int .i64 pr) (.int .i64 pr) ∧ Below wc.heap.size (w1.alloc (.cells #[.int .i64 pr, .float .f64 0, .int .i64 0, .bool false, .bool false, .int .i64 pr, .int .i64 pr] 27)) w') from
      dec_zero wc.heap.size g 0 _ c w1.heap.size cap bits ex F _ 0 S _ _ _ _ _ _ _ _ (hB.below ((Below.refl w1.heap.size w1).alloc (Nat.le_refl _) _) hg2) rfl hl1 hc1 hc2 h0 h1 hb (by omega) (by rw [World.size_alloc]; omega) HB1.out.size HBA.out.size HCA.out e0 e1 hF3 hF1 rfl (by decide) rfl _ HE1.out hB0)
    clear hB HCA HE1
    generalize (hd cap bits ++ (Lib.uvarint (Lib.zigzag ex) ++ (F.toUInt8 :: (Lib.uvarint 0 ++ Lib.uvarint S)))).length = N at *
    go_wp2_with fail
    refine HDS.out.mono ?_
    clear HDS
    rintro e w3 ⟨rfl, hC3, hB3⟩
    have b5 := hC3.a5
    have b6 := hC3.a6
    have HB3 := (show Hid (Below wc.heap.size wc w3) from HBA.out.trans hB3)
    clear hC3 hB3 HBA
    go_wp2
    go_ret
    exact ⟨rfl, HB3.out⟩

set_option maxRecDepth 100000 in
set_option maxHeartbeats 1600000 in
theorem ref2 (s : Nat) (cap : Int) (bits : Nat) (ex : Int) (cut : Value) (fl xt : Nat) (win st : Nat) (pr : Int) (a0 : Addr) (w : World) (hs : s < 256) (hs4 : s % 4 = 2)
    (h0 : -9223372036854775808 ≤ cap) (h1 : cap ≤ 9223372036854775807) (hb : bits < 18446744073709551616) (hwin : win < 18446744073709551616) (hst : st < 18446744073709551616)
    (e0 : -9223372036854775808 ≤ ex) (e1 : ex ≤ 9223372036854775807) (hf : fl < 256) (hx : xt < 256)
    (hE0 : w.cell? ⟨1, 0, none⟩ = some (.iface 46 (.pointer (some a0)))) :
    Calls Ybad.prog 4 #[.int .u8 (s : Int), .int .i64 cap, .int .u64 (bits : Int), .int .i64 ex, cut, .int .u8 (fl : Int), .int .u8 (xt : Int), .int .u64 (win : Int), .int .u64 (st : Int), .int .i64 pr] w fun e w' => e = .returned (.bool true) ∧ Below w.heap.size w w' := by
  have hsel : Int.tmod (s : Int) 4 = 2 := by rw [Int.tmod_eq_emod_of_nonneg (by omega)]; omega
  have hk1 := mask63 win hwin
  have hk2 := mask63 st hst
  have hm1 : win % 9223372036854775808 < 9223372036854775808 := Nat.mod_lt _ (by decide)
  have hm2 : st % 9223372036854775808 < 9223372036854775808 := Nat.mod_lt _ (by decide)
  generalize win % 9223372036854775808 = W at *
  generalize st % 9223372036854775808 = S at *
  have heq := same_err a0
  have HE0 : Hid (w.cell? ⟨1, 0, none⟩ = some (.iface 46 (.pointer (some a0)))) := hE0
  clear hE0
  have hand : Go.bits .and .u8 (fl : Int) 1 = ((fl % 2 : Nat) : Int) := and1 fl hf
  have hr : fl % 2 < 2 := Nat.mod_lt _ (by decide)
  generalize fl % 2 = F at *
  have hF3 : F < 256 := by omega
  have hF1 : F ≤ 1 := by omega
  obtain ⟨i5, h5, z5, s5, b5⟩ := info_parts info5
  have HI : Hid (Ybad.prog.info? 5 = some i5 ∧ i5.zero = some (.int .u8 0) ∧ i5.size = 1 ∧ i5.bytes = 1) := show _ ∧ _ from ⟨h5, z5, s5, b5⟩
  clear h5 z5 s5 b5
  go_enter Ybad.func4, Ybad.ntmps4
  go_upto_if 32 with fail
  go_cut [21] (fun v wx => (∃ W' : Nat, v = .int .u64 (W' : Int) ∧ 1 ≤ W' ∧ W' ≤ 9223372036854775807) ∧ wx = w)
  case first =>
    by_cases hW0 : W = 0
    · subst hW0
      go_wp2
      go_meet
      case rel => exact ⟨⟨1, rfl, by decide, by decide⟩, rfl⟩
    · go_wp2
      go_meet
      case rel => exact ⟨⟨W, rfl, by omega, by omega⟩, rfl⟩
  case rest =>
    obtain ⟨⟨W', rfl, hW1, hW2⟩, rfl⟩ := hcut
    clear hk1 hm1
    have HEN := (show Hid (Calls Ybad.prog 5 #[.int .i64 2, .int .i64 cap, .int .u64 bits, .int .i64 ex, .int .u8 (F : Int), .int .u64 (W' : Int), .int .u64 (S : Int)] wc (Wrote (hd cap bits ++ md ex F ++ tl W' S) wc)) from enc2 cap bits ex F W' S wc h0 h1 hb e0 e1 hF3 (by omega) (by omega))
    go_wp2_with fail
    refine HEN.out.mono ?_
    clear HEN
    rintro e w0 ⟨v0, rfl, ho0, hb0⟩
    have hl2 : (hd cap bits ++ md ex F ++ tl W' S).length ≤ 90 := by
      have := Lib.uvarint_length64 (zigzag_lt h0 h1)
      have := Lib.uvarint_length64 (zigzag_lt e0 e1)
      have := Lib.uvarint_length64 (show S < 18446744073709551616 by omega)
      have := Lib.uvarint_length64 (show W' < 18446744073709551616 by omega)
      simp only [md, tl, List.length_append, hd_length, List.length_cons, List.length_nil]; omega
    have HO0 : Hid (w0.ownsRow wc.heap.size 5 1 v0 (hd cap bits ++ md ex F ++ tl W' S).length (Lib.byteCells (hd cap bits ++ md ex F ++ tl W' S))) := ho0
    have HB0 : Hid (Below wc.heap.size wc w0) := hb0
    clear ho0 hb0
    generalize hN : (hd cap bits ++ md ex F ++ tl W' S).length = N at HO0
    have HN : Hid ((hd cap bits ++ md ex F ++ tl W' S).length = N) := hN
    rw [hN] at hl2
    clear hN
    go_wp2_with (at_builtin; refine wpList_append_own _ rfl (.tmp 82) (.tmp 84) 23 rfl wc.heap.size 5 i5 (.int .u8 0) 1 1 Ybad.underlying23 HI.out.1 HI.out.2.1 HI.out.2.2.1 HI.out.2.2.2 rfl (by decide) _ _ _ rfl (HO0.out.alloc _) ⟨w0.heap.size, 0, none⟩ 1 1 [.int .u8 (xt : Int)] rfl rfl ?c1 ?c2 ?c3 ?c4 ?c5 ?_)
    case c1 => exact cell_one_new _ _ _
    case c2 => intro u hu; simp at hu; subst hu; rfl
    case c3 => unfold maxLen; omega
    case c4 => omega
    case c5 => have := HB0.out.size; simp; omega
    intro v1 w1 ho1 hgrow1 _
    have HB1 : Hid (Below wc.heap.size wc w1) := (HB0.out.alloc HB0.out.size _).grown hgrow1 (by have := HB0.out.size; simp; omega) (fun r hr => (HO0.out.lt r hr).1)
    have hel : (hd cap bits ++ md ex F ++ tl W' S) ++ [xt.toUInt8] = (hd cap bits ++ (Lib.uvarint (Lib.zigzag ex) ++ (F.toUInt8 :: (Lib.uvarint W' ++ (Lib.uvarint S ++ [xt.toUInt8]))))) := by simp [md, tl]
    have hlen : (hd cap bits ++ (Lib.uvarint (Lib.zigzag ex) ++ (F.toUInt8 :: (Lib.uvarint W' ++ (Lib.uvarint S ++ [xt.toUInt8]))))).length = N + 1 := by rw [← hel, List.length_append, HN.out]; rfl
    have ho2 : w1.ownsRow wc.heap.size 5 1 v1 (hd cap bits ++ (Lib.uvarint (Lib.zigzag ex) ++ (F.toUInt8 :: (Lib.uvarint W' ++ (Lib.uvarint S ++ [xt.toUInt8]))))).length (Lib.byteCells (hd cap bits ++ (Lib.uvarint (Lib.zigzag ex) ++ (F.toUInt8 :: (Lib.uvarint W' ++ (Lib.uvarint S ++ [xt.toUInt8])))))) :=
      own_is ho1 hlen.symm (by rw [← hel, byteCells_append _ [xt.toUInt8], byteCells_one hx]; simp only [List.append_assoc])
    have hl0 : 0 < (hd cap bits ++ (Lib.uvarint (Lib.zigzag ex) ++ (F.toUInt8 :: (Lib.uvarint W' ++ (Lib.uvarint S ++ [xt.toUInt8]))))).length := by omega
    have hl1 : (hd cap bits ++ (Lib.uvarint (Lib.zigzag ex) ++ (F.toUInt8 :: (Lib.uvarint W' ++ (Lib.uvarint S ++ [xt.toUInt8]))))).length ≤ 100 := by omega
    obtain ⟨g, c, rfl, hg1, hg2, hc1, hc2, hB⟩ := own_bytes ho2 hl0
    clear ho1 hgrow1 ho2 HO0 HB0 HN hel hlen hl2
    have hE1 : w1.cell? ⟨1, 0, none⟩ = some (.iface 46 (.pointer (some a0))) := (HB1.out.cell (p := ⟨1, 0, none⟩) (World.block_lt_of_cell? _ _ HE0.out)).trans HE0.out
    have HE1 : Hid ((w1.alloc (.cells #[.int .i64 pr, .float .f64 0, .int .i64 0, .bool false, .bool false, .int .i64 pr, .int .i64 pr] 27)).cell? ⟨1, 0, none⟩ = some (.iface 46 (.pointer (some a0)))) := (((Below.refl w1.heap.size w1).alloc (Nat.le_refl _) _).cell (p := ⟨1, 0, none⟩) (World.block_lt_of_cell? _ _ hE1)).trans hE1
    have hsf := store_float 0
    have HBA : Hid (Below wc.heap.size wc (w1.alloc (.cells #[.int .i64 pr, .float .f64 0, .int .i64 0, .bool false, .bool false, .int .i64 pr, .int .i64 pr] 27))) := HB1.out.alloc HB1.out.size _
    have HCA : Hid (Cfg (w1.alloc (.cells #[.int .i64 pr, .float .f64 0, .int .i64 0, .bool false, .bool false, .int .i64 pr, .int .i64 pr] 27)) w1.heap.size (.int .i64 pr) (.float .f64 0) (.int .i64 0) (.bool false) (.bool false) (.int .i64 pr) (.int .i64 pr)) := cfg_new _ _ _ _ _ _ _ _
    have hB0 : 1 < wc.heap.size := World.block_lt_of_cell? _ _ HE0.out
    have HDS := (show Hid (Calls Ybad.prog 6 #[.slice (some ⟨g, 0, none⟩) (hd cap bits ++ (Lib.uvarint (Lib.zigzag ex) ++ (F.toUInt8 :: (Lib.uvarint W' ++ (Lib.uvarint S ++ [xt.toUInt8]))))).length c, .pointer (some ⟨w1.heap.size, 0, none⟩)] (w1.alloc (.cells #[.int .i64 pr, .float .f64 0, .int .i64 0, .bool false, .bool false, .int .i64 pr, .int .i64 pr] 27)) fun e w' => e = .returned (.iface 46 (.pointer (some a0))) ∧ Cfg w' w1.heap.size (.int .i64 cap) (.float .f64 bits) (.int .i64 ex) (.bool ((F : Int) == 1)) (.bool false) (.int .i64 pr) (.int .i64 pr) ∧ Below wc.heap.size (w1.alloc (.cells #[.int .i64 pr, .float .f64 0, .int .i64 0, .bool false, .bool false, .int .i64 pr, .int .i64 pr] 27)) w') from
      dec_more wc.heap.size g 0 _ c w1.heap.size cap bits ex F _ W' S xt.toUInt8 _ _ _ _ _ _ _ _ (hB.below ((Below.refl w1.heap.size w1).alloc (Nat.le_refl _) _) hg2) rfl hl1 hc1 hc2 h0 h1 hb (by omega) (by rw [World.size_alloc]; omega) HB1.out.size HBA.out.size HCA.out e0 e1 hF3 hF1 rfl hW1 hW2 (by omega) _ HE1.out hB0)
    clear hB HCA HE1
    generalize (hd cap bits ++ (Lib.uvarint (Lib.zigzag ex) ++ (F.toUInt8 :: (Lib.uvarint W' ++ (Lib.uvarint S ++ [xt.toUInt8]))))).length = N2 at *
    go_wp2_with fail
    refine HDS.out.mono ?_
    clear HDS
    rintro e w3 ⟨rfl, hC3, hB3⟩
    have b5 := hC3.a5
    have b6 := hC3.a6
    have HB3 := (show Hid (Below wc.heap.size wc w3) from HBA.out.trans hB3)
    clear hC3 hB3 HBA
    go_wp2
    go_ret
    exact ⟨rfl, HB3.out⟩

/-- EVERY INPUT: 'true'; of what was there nothing has turned. -/
theorem ref_any (s : Nat) (cap : Int) (bits : Nat) (ex : Int) (cut fl xt win st : Nat) (pr : Int) (a0 a1 : Addr) (w : World) (hs : s < 256)
    (h0 : -9223372036854775808 ≤ cap) (h1 : cap ≤ 9223372036854775807) (hb : bits < 18446744073709551616) (e0 : -9223372036854775808 ≤ ex) (e1 : ex ≤ 9223372036854775807) (hct : cut < 256) (hf : fl < 256) (hx : xt < 256) (hwin : win < 18446744073709551616) (hst : st < 18446744073709551616)
    (hE0 : w.cell? ⟨0, 0, none⟩ = some (.iface 46 (.pointer (some a0)))) (hE1 : w.cell? ⟨1, 0, none⟩ = some (.iface 46 (.pointer (some a1)))) :
    Calls Ybad.prog 4 #[.int .u8 (s : Int), .int .i64 cap, .int .u64 (bits : Int), .int .i64 ex, .int .u8 (cut : Int), .int .u8 (fl : Int), .int .u8 (xt : Int), .int .u64 (win : Int), .int .u64 (st : Int), .int .i64 pr] w fun e w' => e = .returned (.bool true) ∧ Below w.heap.size w w' := by
  have h4 : s % 4 = 0 ∨ s % 4 = 1 ∨ s % 4 = 2 ∨ s % 4 = 3 := by omega
  rcases h4 with h | h | h | h
  · exact ref0 s cap bits _ cut _ _ win st pr a0 w hs h h0 h1 hb hct hwin hst hE0
  · exact ref1 s cap bits ex _ fl _ win st pr a0 w hs h h0 h1 hb hwin hst e0 e1 hf hE0
  · exact ref2 s cap bits ex _ fl xt win st pr a1 w hs h h0 h1 hb hwin hst e0 e1 hf hx hE1
  · exact ref3 s cap bits ex _ fl _ win st pr a1 w hs h h0 h1 hb hwin hst e0 e1 hf hE1

end Go.Proofs.YbulkceusDoor
