/-
  DERIVED. journal.decodeConfig: THE WALKS THAT END WELL: one for each shape.
-/
import Derived.Test.YbulkceusDoorDec
import Derived.Deep.RegionWith
namespace Go.Proofs.YbulkceusDoor
open Go.RowKit

set_option maxRecDepth 100000 in
set_option maxHeartbeats 1600000 in
theorem dec0 (B g o n c C : Nat) (cap : Int) (bits : Nat) (w : World) (c0 c1 c2 c3 c4 c5 c6 : Value) (hB : Bytes w g o (hd cap bits ++ [])) (hl : n = (hd cap bits ++ []).length) (_hn2 : n ≤ 100) (hnc : n ≤ c) (hcm : c ≤ 9223372036854775807)
    (h0 : -9223372036854775808 ≤ cap) (h1 : cap ≤ 9223372036854775807) (hb : bits < 18446744073709551616) (hg : g ≠ C) (hgw : g < w.heap.size) (hBC : B ≤ C) (hBw : B ≤ w.heap.size) (hC : Cfg w C c0 c1 c2 c3 c4 c5 c6) :
    Calls Ybad.prog 6 #[.slice (some ⟨g, o, none⟩) n c, .pointer (some ⟨C, 0, none⟩)] w fun e w' => e = .returned .nilIface ∧ Cfg w' C (.int .i64 cap) (.float .f64 bits) (.int .i64 2) c3 (.bool true) c5 c6 ∧ Below B w w' := by
  have hp := Lib.uvarint_pos (Lib.zigzag cap)
  have hp2 := Lib.uvarint_length64 (zigzag_lt h0 h1)
  have hl8 := hd_length cap bits
  obtain ⟨m1, hm1⟩ : ∃ m1, (Lib.uvarint (Lib.zigzag cap)).length = m1 := ⟨_, rfl⟩
  have HV := (show Hid (Calls Ybad.prog 11 #[.slice (some ⟨g, o, none⟩) n c] w fun e w' => e = .returned (.tuple #[.int .i64 cap, .int .i64 (m1 : Int)]) ∧ w' = w) from by
    refine varint_at hB hl.symm ?_
    rw [hd, List.append_assoc, varintDec_varint h0 h1, hm1])
  rw [hm1] at hp hp2 hl8
  have hfb := frombits_run bits
  have hsf := store_float bits
  rw [List.length_append, hl8] at hl
  have HL : Hid (n = m1 + 8 + ([]).length) := hl
  have hn1 : m1 + 8 ≤ n := by omega
  have HS1 := hC.set0 (.int .i64 cap)
  have HS2 : Bytes (w.setCell ⟨C, 0, none⟩ (.int .i64 cap)) g o (hd cap bits ++ []) := hB.set hg
  have HS3 : Below B w (w.setCell ⟨C, 0, none⟩ (.int .i64 cap)) := (Below.refl B w).setCell hBC _
  have HS4 : g < (w.setCell ⟨C, 0, none⟩ (.int .i64 cap)).heap.size := by rw [World.size_setCell]; exact hgw
  have a0 := hC.a0
  have f0 := hC.fz 0 (by decide)
  clear hB hl hC hgw hl8
  go_enter Ybad.func6, Ybad.ntmps6
  go_wp2_with fail
  refine HV.out.mono ?_
  clear HV
  rintro e w1 ⟨rfl, rfl⟩
  go_upto_region 5 with fail
  clear a0 f0
  obtain ⟨W, hW⟩ : ∃ W, W = w1.setCell ⟨C, 0, none⟩ (.int .i64 cap) := ⟨_, rfl⟩
  rw [← hW] at HS1 HS2 HS3 HS4 ⊢
  clear hW
  go_cut [37] from 30 to 38 (fun _ wx => Cfg wx C (.int .i64 cap) (.float .f64 bits) c2 c3 c4 c5 c6 ∧ Bytes wx g o (hd cap bits ++ []) ∧ Below B w1 wx)
  case first =>
    have HLE := (show Hid (Calls Ybad.prog 13 #[.agg #[], .slice (some ⟨g, o + m1, none⟩) (n - m1) (c - m1)] W.drew fun e w' => e = .returned (.int .u64 (bits : Int)) ∧ Below W.drew.heap.size W.drew w') from
      le_at (r := []) (by rw [← hm1]; exact hd_at (HS2.below (Below.refl W.heap.size W).drew HS4)) (by omega) hb)
    have HC9 := (show Hid (∀ w9, Below W.drew.heap.size W.drew w9 → Cfg w9 C (.int .i64 cap) c1 c2 c3 c4 c5 c6 ∧ Bytes w9 g o (hd cap bits ++ []) ∧ Below B w1 w9 ∧ w9.cell? ⟨C, 1, none⟩ = some c1 ∧ w9.frozen? ⟨C, 1, none⟩ = false) from fun w9 h9 => by
      have h9' : Below W.heap.size W w9 := (Below.refl W.heap.size W).drew.trans h9
      have hc := HS1.below h9' HS1.lt
      exact ⟨hc, HS2.below h9' HS4, HS3.trans (h9'.mono (Nat.le_trans hBw HS3.size)), hc.a1, hc.fz 1 (by decide)⟩)
    clear HS1 HS2 HS3 HS4
    go_region_with (first | (go_at_call 13; refine HLE.out.mono ?_; rintro e w9 ⟨rfl, hb9⟩; obtain ⟨k0, k1, k2, k3, k4⟩ := HC9.out w9 hb9; clear HC9 HLE hb9))
    all_goals
      go_wp2_with fail
      go_meet
      case rel => exact ⟨k0.set1 _, k1.set hg, k2.setCell hBC _⟩
  case rest =>
    clear HS1 HS2 HS3 HS4 hfb hsf hb
    obtain ⟨hS1, hS2, hS3⟩ := hcut
    have a2 := hS1.a2
    have a4 := hS1.a4
    have f2 := hS1.fz 2 (by decide)
    have f4 := hS1.fz 4 (by decide)
    have HS1 : Hid (Cfg wc C (.int .i64 cap) (.float .f64 bits) c2 c3 c4 c5 c6) := hS1
    have HS3 : Hid (Below B w1 wc) := hS3
    clear hS1 hS2 hS3
    have hz : n - (m1 + 8) = 0 := by have := HL.out; simp at this; omega
    go_wp2
    all_goals
      go_ret
      exact ⟨rfl, (HS1.out.set2 _).set4 _, (HS3.out.setCell hBC _).setCell hBC _⟩

set_option maxRecDepth 100000 in
set_option maxHeartbeats 1600000 in
theorem dec1 (B g o n c C : Nat) (cap : Int) (bits : Nat) (ex : Int) (fl : Nat) (nb : Bool) (w : World) (c0 c1 c2 c3 c4 c5 c6 : Value) (hB : Bytes w g o (hd cap bits ++ (Lib.uvarint (Lib.zigzag ex) ++ (fl.toUInt8 :: [])))) (hl : n = (hd cap bits ++ (Lib.uvarint (Lib.zigzag ex) ++ (fl.toUInt8 :: []))).length) (_hn2 : n ≤ 100) (hnc : n ≤ c) (hcm : c ≤ 9223372036854775807)
    (h0 : -9223372036854775808 ≤ cap) (h1 : cap ≤ 9223372036854775807) (hb : bits < 18446744073709551616) (hg : g ≠ C) (hgw : g < w.heap.size) (hBC : B ≤ C) (hBw : B ≤ w.heap.size) (hC : Cfg w C c0 c1 c2 c3 c4 c5 c6) (e0 : -9223372036854775808 ≤ ex) (e1 : ex ≤ 9223372036854775807) (hf : fl < 256) (hf1 : fl ≤ 1) (hnb : ((fl : Int) == 1) = nb) :
    Calls Ybad.prog 6 #[.slice (some ⟨g, o, none⟩) n c, .pointer (some ⟨C, 0, none⟩)] w fun e w' => e = .returned .nilIface ∧ Cfg w' C (.int .i64 cap) (.float .f64 bits) (.int .i64 ex) (.bool nb) c4 c5 c6 ∧ Below B w w' := by
  have hp := Lib.uvarint_pos (Lib.zigzag cap)
  have hp2 := Lib.uvarint_length64 (zigzag_lt h0 h1)
  have hl8 := hd_length cap bits
  obtain ⟨m1, hm1⟩ : ∃ m1, (Lib.uvarint (Lib.zigzag cap)).length = m1 := ⟨_, rfl⟩
  have HV := (show Hid (Calls Ybad.prog 11 #[.slice (some ⟨g, o, none⟩) n c] w fun e w' => e = .returned (.tuple #[.int .i64 cap, .int .i64 (m1 : Int)]) ∧ w' = w) from by
    refine varint_at hB hl.symm ?_
    rw [hd, List.append_assoc, varintDec_varint h0 h1, hm1])
  rw [hm1] at hp hp2 hl8
  have hfb := frombits_run bits
  have hsf := store_float bits
  rw [List.length_append, hl8] at hl
  have HL : Hid (n = m1 + 8 + ((Lib.uvarint (Lib.zigzag ex) ++ (fl.toUInt8 :: []))).length) := hl
  have hn1 : m1 + 8 ≤ n := by omega
  have HS1 := hC.set0 (.int .i64 cap)
  have HS2 : Bytes (w.setCell ⟨C, 0, none⟩ (.int .i64 cap)) g o (hd cap bits ++ (Lib.uvarint (Lib.zigzag ex) ++ (fl.toUInt8 :: []))) := hB.set hg
  have HS3 : Below B w (w.setCell ⟨C, 0, none⟩ (.int .i64 cap)) := (Below.refl B w).setCell hBC _
  have HS4 : g < (w.setCell ⟨C, 0, none⟩ (.int .i64 cap)).heap.size := by rw [World.size_setCell]; exact hgw
  have a0 := hC.a0
  have f0 := hC.fz 0 (by decide)
  clear hB hl hC hgw hl8
  go_enter Ybad.func6, Ybad.ntmps6
  go_wp2_with fail
  refine HV.out.mono ?_
  clear HV
  rintro e w1 ⟨rfl, rfl⟩
  go_upto_region 5 with fail
  clear a0 f0
  obtain ⟨W, hW⟩ : ∃ W, W = w1.setCell ⟨C, 0, none⟩ (.int .i64 cap) := ⟨_, rfl⟩
  rw [← hW] at HS1 HS2 HS3 HS4 ⊢
  clear hW
  go_cut [37] from 30 to 38 (fun _ wx => Cfg wx C (.int .i64 cap) (.float .f64 bits) c2 c3 c4 c5 c6 ∧ Bytes wx g o (hd cap bits ++ (Lib.uvarint (Lib.zigzag ex) ++ (fl.toUInt8 :: []))) ∧ Below B w1 wx)
  case first =>
    have HLE := (show Hid (Calls Ybad.prog 13 #[.agg #[], .slice (some ⟨g, o + m1, none⟩) (n - m1) (c - m1)] W.drew fun e w' => e = .returned (.int .u64 (bits : Int)) ∧ Below W.drew.heap.size W.drew w') from
      le_at (r := (Lib.uvarint (Lib.zigzag ex) ++ (fl.toUInt8 :: []))) (by rw [← hm1]; exact hd_at (HS2.below (Below.refl W.heap.size W).drew HS4)) (by omega) hb)
    have HC9 := (show Hid (∀ w9, Below W.drew.heap.size W.drew w9 → Cfg w9 C (.int .i64 cap) c1 c2 c3 c4 c5 c6 ∧ Bytes w9 g o (hd cap bits ++ (Lib.uvarint (Lib.zigzag ex) ++ (fl.toUInt8 :: []))) ∧ Below B w1 w9 ∧ w9.cell? ⟨C, 1, none⟩ = some c1 ∧ w9.frozen? ⟨C, 1, none⟩ = false) from fun w9 h9 => by
      have h9' : Below W.heap.size W w9 := (Below.refl W.heap.size W).drew.trans h9
      have hc := HS1.below h9' HS1.lt
      exact ⟨hc, HS2.below h9' HS4, HS3.trans (h9'.mono (Nat.le_trans hBw HS3.size)), hc.a1, hc.fz 1 (by decide)⟩)
    clear HS1 HS2 HS3 HS4
    go_region_with (first | (go_at_call 13; refine HLE.out.mono ?_; rintro e w9 ⟨rfl, hb9⟩; obtain ⟨k0, k1, k2, k3, k4⟩ := HC9.out w9 hb9; clear HC9 HLE hb9))
    all_goals
      go_wp2_with fail
      go_meet
      case rel => exact ⟨k0.set1 _, k1.set hg, k2.setCell hBC _⟩
  case rest =>
    clear HS1 HS2 HS3 HS4 hfb hsf hb
    obtain ⟨hS1, hS2, hS3⟩ := hcut
    have hq := Lib.uvarint_pos (Lib.zigzag ex)
    have hq2 := Lib.uvarint_length64 (zigzag_lt e0 e1)
    obtain ⟨m2, hm2⟩ : ∃ m2, (Lib.uvarint (Lib.zigzag ex)).length = m2 := ⟨_, rfl⟩
    have hk : n - (m1 + 8) = m2 + 1 + (([] : List UInt8)).length := by have := HL.out; simp [hm2] at this; simp; omega
    have HB2 : Bytes wc g (o + (m1 + 8)) (Lib.uvarint (Lib.zigzag ex) ++ (fl.toUInt8 :: ([] : List UInt8))) := by
      have := hS2.drop
      rwa [hd_length, hm1] at this
    have hcf : wc.cell? ⟨g, o + (m1 + 8) + m2, none⟩ = some (.int .u8 (fl : Int)) := by
      have := HB2 m2 (by simp; omega)
      rw [this]
      simp [← hm2, toU8_toNat hf]
    have HV2 := (show Hid (Calls Ybad.prog 11 #[.slice (some ⟨g, o + (m1 + 8), none⟩) (n - (m1 + 8)) (c - (m1 + 8))] wc fun e w' => e = .returned (.tuple #[.int .i64 ex, .int .i64 (m2 : Int)]) ∧ w' = wc) from by
      refine varint_at HB2 (by rw [hk]; simp only [List.length_append, List.length_cons, hm2]; omega) ?_
      rw [varintDec_varint e0 e1, hm2])
    rw [hm2] at hq hq2
    have hcn : ¬ c = m1 + 8 := by omega
    have HKa : Hid (n - (m1 + 8) = m2 + 1 + (([] : List UInt8)).length) := hk
    clear hk
    go_upto_if 45 with fail
    have hk := HKa.out
    clear HKa
    obtain ⟨k, hkk⟩ : ∃ k, k = n - (m1 + 8) := ⟨_, rfl⟩
    obtain ⟨cc, hcc⟩ : ∃ cc, cc = c - (m1 + 8) := ⟨_, rfl⟩
    obtain ⟨o2, ho2⟩ : ∃ o2, o2 = o + (m1 + 8) := ⟨_, rfl⟩
    have hkc : k ≤ cc := by omega
    have hk100 : k ≤ 100 := by omega
    have hcm2 : cc ≤ 9223372036854775807 := by omega
    rw [← hkk, ← hcc, ← ho2] at HV2 ⊢
    rw [← hkk] at hk
    rw [← ho2] at HB2 hcf
    clear hkk hcc ho2 hcn hcm hnc hn1 HL hS2
    have HK : Hid (k = m2 + 1 + (([] : List UInt8)).length) := hk
    have hk1 : m2 + 1 ≤ k := by omega
    clear hk
    have hk0 : ((k : Int) == 0) = false := by rw [beq_eq_false_iff_ne]; omega
    have a2 := hS1.a2
    have f2 := hS1.fz 2 (by decide)
    have a3 : (wc.setCell ⟨C, 2, none⟩ (.int .i64 ex)).cell? ⟨C, 3, none⟩ = some c3 := (hS1.set2 _).a3
    have f3 := hS1.fz 3 (by decide)
    have hcf' : (wc.setCell ⟨C, 2, none⟩ (.int .i64 ex)).cell? ⟨g, o2 + m2, none⟩ = some (.int .u8 (fl : Int)) := (World.cell?_setCell_other _ _ _ _ (fun e => hg (congrArg Addr.block e).symm)).trans hcf
    have HS1 : Hid (Cfg wc C (.int .i64 cap) (.float .f64 bits) c2 c3 c4 c5 c6) := hS1
    have HS3 : Hid (Below B w1 wc) := hS3
    have HB2' : Hid (Bytes wc g o2 (Lib.uvarint (Lib.zigzag ex) ++ (fl.toUInt8 :: ([] : List UInt8)))) := HB2
    clear hS1 hS3 HB2
    go_wp2_with fail
    refine HV2.out.mono ?_
    clear HV2
    obtain ⟨wb, rfl⟩ : ∃ wb : World, wb = wc := ⟨_, rfl⟩
    rintro e w2 ⟨rfl, rfl⟩
    have hz : k - (m2 + 1) = 0 := by have := HK.out; simp at this; omega
    clear HB2'
    go_wp2
    all_goals
      go_ret
      exact ⟨rfl, (HS1.out.set2 _).set3 _, (HS3.out.setCell hBC _).setCell hBC _⟩

set_option maxRecDepth 100000 in
set_option maxHeartbeats 1600000 in
theorem dec2 (B g o n c C : Nat) (cap : Int) (bits : Nat) (ex : Int) (fl : Nat) (nb : Bool) (wi st : Nat) (w : World) (c0 c1 c2 c3 c4 c5 c6 : Value) (hB : Bytes w g o (hd cap bits ++ (Lib.uvarint (Lib.zigzag ex) ++ (fl.toUInt8 :: (Lib.uvarint wi ++ (Lib.uvarint st ++ [])))))) (hl : n = (hd cap bits ++ (Lib.uvarint (Lib.zigzag ex) ++ (fl.toUInt8 :: (Lib.uvarint wi ++ (Lib.uvarint st ++ []))))).length) (_hn2 : n ≤ 100) (hnc : n ≤ c) (hcm : c ≤ 9223372036854775807)
    (h0 : -9223372036854775808 ≤ cap) (h1 : cap ≤ 9223372036854775807) (hb : bits < 18446744073709551616) (hg : g ≠ C) (hgw : g < w.heap.size) (hBC : B ≤ C) (hBw : B ≤ w.heap.size) (hC : Cfg w C c0 c1 c2 c3 c4 c5 c6) (e0 : -9223372036854775808 ≤ ex) (e1 : ex ≤ 9223372036854775807) (hf : fl < 256) (hf1 : fl ≤ 1) (hnb : ((fl : Int) == 1) = nb) (hw1 : 1 ≤ wi) (hw2 : wi ≤ 9223372036854775807) (hst : st ≤ 9223372036854775807) :
    Calls Ybad.prog 6 #[.slice (some ⟨g, o, none⟩) n c, .pointer (some ⟨C, 0, none⟩)] w fun e w' => e = .returned .nilIface ∧ Cfg w' C (.int .i64 cap) (.float .f64 bits) (.int .i64 ex) (.bool nb) c4 (.int .i64 (wi : Int)) (.int .i64 (st : Int)) ∧ Below B w w' := by
  have hwi : wi < 18446744073709551616 := by omega
  have hp := Lib.uvarint_pos (Lib.zigzag cap)
  have hp2 := Lib.uvarint_length64 (zigzag_lt h0 h1)
  have hl8 := hd_length cap bits
  obtain ⟨m1, hm1⟩ : ∃ m1, (Lib.uvarint (Lib.zigzag cap)).length = m1 := ⟨_, rfl⟩
  have HV := (show Hid (Calls Ybad.prog 11 #[.slice (some ⟨g, o, none⟩) n c] w fun e w' => e = .returned (.tuple #[.int .i64 cap, .int .i64 (m1 : Int)]) ∧ w' = w) from by
    refine varint_at hB hl.symm ?_
    rw [hd, List.append_assoc, varintDec_varint h0 h1, hm1])
  rw [hm1] at hp hp2 hl8
  have hfb := frombits_run bits
  have hsf := store_float bits
  rw [List.length_append, hl8] at hl
  have HL : Hid (n = m1 + 8 + ((Lib.uvarint (Lib.zigzag ex) ++ (fl.toUInt8 :: (Lib.uvarint wi ++ (Lib.uvarint st ++ []))))).length) := hl
  have hn1 : m1 + 8 ≤ n := by omega
  have HS1 := hC.set0 (.int .i64 cap)
  have HS2 : Bytes (w.setCell ⟨C, 0, none⟩ (.int .i64 cap)) g o (hd cap bits ++ (Lib.uvarint (Lib.zigzag ex) ++ (fl.toUInt8 :: (Lib.uvarint wi ++ (Lib.uvarint st ++ []))))) := hB.set hg
  have HS3 : Below B w (w.setCell ⟨C, 0, none⟩ (.int .i64 cap)) := (Below.refl B w).setCell hBC _
  have HS4 : g < (w.setCell ⟨C, 0, none⟩ (.int .i64 cap)).heap.size := by rw [World.size_setCell]; exact hgw
  have a0 := hC.a0
  have f0 := hC.fz 0 (by decide)
  clear hB hl hC hgw hl8
  go_enter Ybad.func6, Ybad.ntmps6
  go_wp2_with fail
  refine HV.out.mono ?_
  clear HV
  rintro e w1 ⟨rfl, rfl⟩
  go_upto_region 5 with fail
  clear a0 f0
  obtain ⟨W, hW⟩ : ∃ W, W = w1.setCell ⟨C, 0, none⟩ (.int .i64 cap) := ⟨_, rfl⟩
  rw [← hW] at HS1 HS2 HS3 HS4 ⊢
  clear hW
  go_cut [37] from 30 to 38 (fun _ wx => Cfg wx C (.int .i64 cap) (.float .f64 bits) c2 c3 c4 c5 c6 ∧ Bytes wx g o (hd cap bits ++ (Lib.uvarint (Lib.zigzag ex) ++ (fl.toUInt8 :: (Lib.uvarint wi ++ (Lib.uvarint st ++ []))))) ∧ Below B w1 wx)
  case first =>
    have HLE := (show Hid (Calls Ybad.prog 13 #[.agg #[], .slice (some ⟨g, o + m1, none⟩) (n - m1) (c - m1)] W.drew fun e w' => e = .returned (.int .u64 (bits : Int)) ∧ Below W.drew.heap.size W.drew w') from
      le_at (r := (Lib.uvarint (Lib.zigzag ex) ++ (fl.toUInt8 :: (Lib.uvarint wi ++ (Lib.uvarint st ++ []))))) (by rw [← hm1]; exact hd_at (HS2.below (Below.refl W.heap.size W).drew HS4)) (by omega) hb)
    have HC9 := (show Hid (∀ w9, Below W.drew.heap.size W.drew w9 → Cfg w9 C (.int .i64 cap) c1 c2 c3 c4 c5 c6 ∧ Bytes w9 g o (hd cap bits ++ (Lib.uvarint (Lib.zigzag ex) ++ (fl.toUInt8 :: (Lib.uvarint wi ++ (Lib.uvarint st ++ []))))) ∧ Below B w1 w9 ∧ w9.cell? ⟨C, 1, none⟩ = some c1 ∧ w9.frozen? ⟨C, 1, none⟩ = false) from fun w9 h9 => by
      have h9' : Below W.heap.size W w9 := (Below.refl W.heap.size W).drew.trans h9
      have hc := HS1.below h9' HS1.lt
      exact ⟨hc, HS2.below h9' HS4, HS3.trans (h9'.mono (Nat.le_trans hBw HS3.size)), hc.a1, hc.fz 1 (by decide)⟩)
    clear HS1 HS2 HS3 HS4
    go_region_with (first | (go_at_call 13; refine HLE.out.mono ?_; rintro e w9 ⟨rfl, hb9⟩; obtain ⟨k0, k1, k2, k3, k4⟩ := HC9.out w9 hb9; clear HC9 HLE hb9))
    all_goals
      go_wp2_with fail
      go_meet
      case rel => exact ⟨k0.set1 _, k1.set hg, k2.setCell hBC _⟩
  case rest =>
    clear HS1 HS2 HS3 HS4 hfb hsf hb
    obtain ⟨hS1, hS2, hS3⟩ := hcut
    have hq := Lib.uvarint_pos (Lib.zigzag ex)
    have hq2 := Lib.uvarint_length64 (zigzag_lt e0 e1)
    obtain ⟨m2, hm2⟩ : ∃ m2, (Lib.uvarint (Lib.zigzag ex)).length = m2 := ⟨_, rfl⟩
    have hk : n - (m1 + 8) = m2 + 1 + ((Lib.uvarint wi ++ (Lib.uvarint st ++ []))).length := by have := HL.out; simp [hm2] at this; simp; omega
    have HB2 : Bytes wc g (o + (m1 + 8)) (Lib.uvarint (Lib.zigzag ex) ++ (fl.toUInt8 :: (Lib.uvarint wi ++ (Lib.uvarint st ++ [])))) := by
      have := hS2.drop
      rwa [hd_length, hm1] at this
    have hcf : wc.cell? ⟨g, o + (m1 + 8) + m2, none⟩ = some (.int .u8 (fl : Int)) := by
      have := HB2 m2 (by simp; omega)
      rw [this]
      simp [← hm2, toU8_toNat hf]
    have HV2 := (show Hid (Calls Ybad.prog 11 #[.slice (some ⟨g, o + (m1 + 8), none⟩) (n - (m1 + 8)) (c - (m1 + 8))] wc fun e w' => e = .returned (.tuple #[.int .i64 ex, .int .i64 (m2 : Int)]) ∧ w' = wc) from by
      refine varint_at HB2 (by rw [hk]; simp only [List.length_append, List.length_cons, hm2]; omega) ?_
      rw [varintDec_varint e0 e1, hm2])
    rw [hm2] at hq hq2
    have hcn : ¬ c = m1 + 8 := by omega
    have HKa : Hid (n - (m1 + 8) = m2 + 1 + ((Lib.uvarint wi ++ (Lib.uvarint st ++ []))).length) := hk
    clear hk
    go_upto_if 45 with fail
    have hk := HKa.out
    clear HKa
    obtain ⟨k, hkk⟩ : ∃ k, k = n - (m1 + 8) := ⟨_, rfl⟩
    obtain ⟨cc, hcc⟩ : ∃ cc, cc = c - (m1 + 8) := ⟨_, rfl⟩
    obtain ⟨o2, ho2⟩ : ∃ o2, o2 = o + (m1 + 8) := ⟨_, rfl⟩
    have hkc : k ≤ cc := by omega
    have hk100 : k ≤ 100 := by omega
    have hcm2 : cc ≤ 9223372036854775807 := by omega
    rw [← hkk, ← hcc, ← ho2] at HV2 ⊢
    rw [← hkk] at hk
    rw [← ho2] at HB2 hcf
    clear hkk hcc ho2 hcn hcm hnc hn1 HL hS2
    have HK : Hid (k = m2 + 1 + ((Lib.uvarint wi ++ (Lib.uvarint st ++ []))).length) := hk
    have hk1 : m2 + 1 ≤ k := by omega
    clear hk
    have hk0 : ((k : Int) == 0) = false := by rw [beq_eq_false_iff_ne]; omega
    have a2 := hS1.a2
    have f2 := hS1.fz 2 (by decide)
    have a3 : (wc.setCell ⟨C, 2, none⟩ (.int .i64 ex)).cell? ⟨C, 3, none⟩ = some c3 := (hS1.set2 _).a3
    have f3 := hS1.fz 3 (by decide)
    have hcf' : (wc.setCell ⟨C, 2, none⟩ (.int .i64 ex)).cell? ⟨g, o2 + m2, none⟩ = some (.int .u8 (fl : Int)) := (World.cell?_setCell_other _ _ _ _ (fun e => hg (congrArg Addr.block e).symm)).trans hcf
    have HS1 : Hid (Cfg wc C (.int .i64 cap) (.float .f64 bits) c2 c3 c4 c5 c6) := hS1
    have HS3 : Hid (Below B w1 wc) := hS3
    have HB2' : Hid (Bytes wc g o2 (Lib.uvarint (Lib.zigzag ex) ++ (fl.toUInt8 :: (Lib.uvarint wi ++ (Lib.uvarint st ++ []))))) := HB2
    clear hS1 hS3 HB2
    go_wp2_with fail
    refine HV2.out.mono ?_
    clear HV2
    obtain ⟨wb, rfl⟩ : ∃ wb : World, wb = wc := ⟨_, rfl⟩
    rintro e w2 ⟨rfl, rfl⟩
    have hr := Lib.uvarint_pos wi
    have hr2 := Lib.uvarint_length64 hwi
    obtain ⟨m3, hm3⟩ : ∃ m3, (Lib.uvarint wi).length = m3 := ⟨_, rfl⟩
    have hk : k - (m2 + 1) = m3 + ((Lib.uvarint st ++ [])).length := by have := HK.out; simp only [List.length_append, hm3] at this ⊢; omega
    have HB3 : Bytes ((w2.setCell ⟨C, 2, none⟩ (.int .i64 ex)).setCell ⟨C, 3, none⟩ (.bool nb)) g (o2 + (m2 + 1)) (Lib.uvarint wi ++ (Lib.uvarint st ++ [])) := by
      have h := HB2'.out
      rw [show Lib.uvarint (Lib.zigzag ex) ++ (fl.toUInt8 :: (Lib.uvarint wi ++ (Lib.uvarint st ++ []))) = (Lib.uvarint (Lib.zigzag ex) ++ [fl.toUInt8]) ++ (Lib.uvarint wi ++ (Lib.uvarint st ++ [])) by simp] at h
      have h2 := h.drop
      rw [List.length_append, hm2] at h2
      exact (h2.set hg).set hg
    have HS1' := (HS1.out.set2 (.int .i64 ex)).set3 (.bool nb)
    have HS3' := (HS3.out.setCell (p := ⟨C, 2, none⟩) hBC (.int .i64 ex)).setCell (p := ⟨C, 3, none⟩) hBC (.bool nb)
    rw [hm3] at hr hr2
    clear HB2' HS1 HS3
    have hcn : ¬ cc = m2 + 1 := by omega
    have HKa : Hid (k - (m2 + 1) = m3 + ((Lib.uvarint st ++ [])).length) := hk
    clear hk
    go_upto_if 92 with fail
    have hk := HKa.out
    clear HKa
    obtain ⟨W2, hW2⟩ : ∃ W2, W2 = (w2.setCell ⟨C, 2, none⟩ (.int .i64 ex)).setCell ⟨C, 3, none⟩ (.bool nb) := ⟨_, rfl⟩
    rw [← hW2] at HB3 HS1' HS3' ⊢
    clear hW2 a2 a3 f2 f3 hcf' hcf
    obtain ⟨k3, hkk⟩ : ∃ k3, k3 = k - (m2 + 1) := ⟨_, rfl⟩
    obtain ⟨c3', hcc⟩ : ∃ c3', c3' = cc - (m2 + 1) := ⟨_, rfl⟩
    obtain ⟨o3, ho3⟩ : ∃ o3, o3 = o2 + (m2 + 1) := ⟨_, rfl⟩
    have hkc3 : k3 ≤ c3' := by omega
    have hk1003 : k3 ≤ 100 := by omega
    have hcm3 : c3' ≤ 9223372036854775807 := by omega
    rw [← hkk, ← hcc, ← ho3]
    rw [← hkk] at hk
    rw [← ho3] at HB3
    clear hkk hcc ho3 hcn hcm2 hkc hk1 hk100 HK hk0
    have HK3 : Hid (k3 = m3 + ((Lib.uvarint st ++ [])).length) := hk
    have hk31 : m3 ≤ k3 := by omega
    clear hk
    have hk30 : ((k3 : Int) == 0) = false := by rw [beq_eq_false_iff_ne]; omega
    have HV3 := (show Hid (Calls Ybad.prog 14 #[.slice (some ⟨g, o3, none⟩) k3 c3'] W2 fun e w' => e = .returned (.tuple #[.int .u64 (wi : Int), .int .i64 (m3 : Int)]) ∧ w' = W2) from by
      refine uvarint_at HB3 (by rw [HK3.out]; simp [hm3]) ?_
      rw [uvarintDec_uvarint hwi, hm3])
    have HS1 : Hid (Cfg W2 C (.int .i64 cap) (.float .f64 bits) (.int .i64 ex) (.bool nb) c4 c5 c6) := HS1'
    have HS3 : Hid (Below B w1 W2) := HS3'
    have HB3' : Hid (Bytes W2 g o3 (Lib.uvarint wi ++ (Lib.uvarint st ++ []))) := HB3
    clear HS1' HS3' HB3
    go_wp2_with fail
    refine HV3.out.mono ?_
    clear HV3
    rintro e w3 ⟨rfl, rfl⟩
    have hs := Lib.uvarint_pos st
    have hs2 := Lib.uvarint_length64 (show st < 18446744073709551616 by omega)
    obtain ⟨m4, hm4⟩ : ∃ m4, (Lib.uvarint st).length = m4 := ⟨_, rfl⟩
    have hk : k3 - m3 = m4 + (([] : List UInt8)).length := by have := HK3.out; simp [hm4] at this; simp; omega
    have HB4 : Bytes w3 g (o3 + m3) (Lib.uvarint st ++ ([] : List UInt8)) := by
      have := HB3'.out.drop
      rwa [hm3] at this
    have HV4 := (show Hid (Calls Ybad.prog 14 #[.slice (some ⟨g, o3 + m3, none⟩) (k3 - m3) (c3' - m3)] w3 fun e w' => e = .returned (.tuple #[.int .u64 (st : Int), .int .i64 (m4 : Int)]) ∧ w' = w3) from by
      refine uvarint_at HB4 (by rw [hk]; simp only [List.length_append, hm4]) ?_
      rw [uvarintDec_uvarint (by omega), hm4])
    rw [hm4] at hs hs2
    have hcn : ¬ c3' = m3 := by omega
    have HK4 : Hid (k3 - m3 = m4 + (([] : List UInt8)).length) := hk
    clear hk HB4 HB3'
    go_wp2_with fail
    refine HV4.out.mono ?_
    clear HV4
    rintro e w4 ⟨rfl, rfl⟩
    have hne : (k3 : Int) = (m3 : Int) + (m4 : Int) := by
      have := HK4.out
      simp at this
      omega
    have a5 := HS1.out.a5
    have f5 := HS1.out.fz 5 (by decide)
    have a6 : (w4.setCell ⟨C, 5, none⟩ (.int .i64 (wi : Int))).cell? ⟨C, 6, none⟩ = some c6 := (HS1.out.set5 _).a6
    have f6 := HS1.out.fz 6 (by decide)
    go_wp2
    go_ret
    exact ⟨rfl, (HS1.out.set5 _).set6 _, (HS3.out.setCell hBC _).setCell hBC _⟩

end Go.Proofs.YbulkceusDoor
