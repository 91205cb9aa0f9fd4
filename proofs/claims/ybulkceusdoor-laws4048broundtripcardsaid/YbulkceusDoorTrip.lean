/-
  DERIVED. journal.LawS4048BRoundTrip: THE WALKS, one for each shape.
-/
import Derived.Test.YbulkceusDoorOwn
import Derived.Test.YbulkceusDoorDecGood
namespace Go.Proofs.YbulkceusDoor
open Go.RowKit

set_option maxRecDepth 100000 in
set_option maxHeartbeats 1600000 in
theorem trip0 (s : Nat) (cap : Int) (bits : Nat) (ex : Int) (ns : Bool) (win st : Nat) (pr : Int) (pb : Bool) (w : World) (hs : s < 256) (hs3 : s % 3 = 0)
    (h0 : -9223372036854775808 ≤ cap) (h1 : cap ≤ 9223372036854775807) (hb : bits < 18446744073709551616) (_e0 : -9223372036854775808 ≤ ex) (_e1 : ex ≤ 9223372036854775807) (hwin : win < 18446744073709551616) (hst : st < 18446744073709551616) :
    Calls Ybad.prog 3 #[.int .u8 (s : Int), .int .i64 cap, .int .u64 (bits : Int), .int .i64 ex, .bool ns, .int .u64 (win : Int), .int .u64 (st : Int), .int .i64 pr, .bool pb] w fun e w' => e = .returned (.bool true) ∧ Below w.heap.size w w' := by
  have hsel : Int.tmod (s : Int) 3 = 0 := by rw [Int.tmod_eq_emod_of_nonneg (by omega)]; omega
  have hk1 := mask63 win hwin
  have hk2 := mask63 st hst
  have hm1 : win % 9223372036854775808 < 9223372036854775808 := Nat.mod_lt _ (by decide)
  have hm2 : st % 9223372036854775808 < 9223372036854775808 := Nat.mod_lt _ (by decide)
  generalize win % 9223372036854775808 = W at *
  generalize st % 9223372036854775808 = S at *
  go_enter Ybad.func3, Ybad.ntmps3
  go_upto_if 32 with fail
  go_cut [20] (fun v wx => (∃ W' : Nat, v = .int .u64 (W' : Int) ∧ 1 ≤ W' ∧ W' ≤ 9223372036854775807) ∧ wx = w)
  case first =>
    by_cases hW0 : W = 0
    · subst hW0
      go_wp2
      go_meet
      case rel => exact ⟨⟨1, rfl, by decide, by decide⟩, rfl⟩
    · go_wp2
      go_meet
      case rel => exact ⟨⟨W, rfl, by omega, by omega⟩, rfl⟩
  case rest =>
    obtain ⟨⟨W', rfl, hW1, hW2⟩, rfl⟩ := hcut
    clear hk1 hm1
    obtain ⟨wa, rfl⟩ : ∃ wa : World, wa = wc := ⟨_, rfl⟩
    go_upto_if 35 with fail
    go_cut [22] (fun v wx => (∃ F : Nat, v = .int .u8 (F : Int) ∧ F ≤ 1 ∧ ((F : Int) == 1) = ns) ∧ wx = wa)
    case first =>
      cases ns
      · go_wp2
        go_meet
        case rel => exact ⟨⟨0, rfl, by decide, by decide⟩, rfl⟩
      · go_wp2
        go_meet
        case rel => exact ⟨⟨1, rfl, by decide, by decide⟩, rfl⟩
    case rest =>
      obtain ⟨⟨F, rfl, hF1, hnb⟩, rfl⟩ := hcut
      have HNB : Hid (((F : Int) == 1) = ns) := hnb
      clear hnb
      have hF3 : F < 256 := by omega
      have HEN := (show Hid (Calls Ybad.prog 5 #[.int .i64 0, .int .i64 cap, .int .u64 bits, .int .i64 ex, .int .u8 (F : Int), .int .u64 (W' : Int), .int .u64 (S : Int)] wc (Wrote (hd cap bits) wc)) from enc0 cap bits _ _ _ _ wc h0 h1 hb)
      go_wp2_with fail
      refine HEN.out.mono ?_
      clear HEN
      rintro e w1 ⟨v1, rfl, ho1, hb1⟩
      rw [show (hd cap bits) = (hd cap bits ++ []) by simp] at ho1
      have hl0 : 0 < (hd cap bits ++ []).length := by rw [List.length_append, hd_length]; omega
      have hl1 : (hd cap bits ++ []).length ≤ 100 := by
        have := Lib.uvarint_length64 (zigzag_lt h0 h1)
        simp only [List.length_append, hd_length, List.length_nil]; omega
      obtain ⟨g, c, rfl, hg1, hg2, hc1, hc2, hB⟩ := own_bytes ho1 hl0
      have HB1 : Hid (Below wc.heap.size wc w1) := hb1
      clear ho1 hb1
      have hsf := store_float 4602678819172646912
      have hbr := bits_run bits
      have HBA : Hid (Below wc.heap.size wc (w1.alloc (.cells #[.int .i64 pr, .float .f64 4602678819172646912, .int .i64 pr, .bool pb, .bool pb, .int .i64 pr, .int .i64 pr] 27))) := HB1.out.alloc HB1.out.size _
      have HCA : Hid (Cfg (w1.alloc (.cells #[.int .i64 pr, .float .f64 4602678819172646912, .int .i64 pr, .bool pb, .bool pb, .int .i64 pr, .int .i64 pr] 27)) w1.heap.size (.int .i64 pr) (.float .f64 4602678819172646912) (.int .i64 pr) (.bool pb) (.bool pb) (.int .i64 pr) (.int .i64 pr)) := cfg_new _ _ _ _ _ _ _ _
      have HDS := (show Hid (Calls Ybad.prog 6 #[.slice (some ⟨g, 0, none⟩) (hd cap bits ++ []).length c, .pointer (some ⟨w1.heap.size, 0, none⟩)] (w1.alloc (.cells #[.int .i64 pr, .float .f64 4602678819172646912, .int .i64 pr, .bool pb, .bool pb, .int .i64 pr, .int .i64 pr] 27)) fun e w' => e = .returned .nilIface ∧ Cfg w' w1.heap.size (.int .i64 cap) (.float .f64 bits) (.int .i64 2) (.bool pb) (.bool true) (.int .i64 pr) (.int .i64 pr) ∧ Below wc.heap.size (w1.alloc (.cells #[.int .i64 pr, .float .f64 4602678819172646912, .int .i64 pr, .bool pb, .bool pb, .int .i64 pr, .int .i64 pr] 27)) w') from
        dec0 wc.heap.size g 0 _ c w1.heap.size cap bits _ _ _ _ _ _ _ _ (hB.below ((Below.refl w1.heap.size w1).alloc (Nat.le_refl _) _) hg2) rfl hl1 hc1 hc2 h0 h1 hb (by omega) (by rw [World.size_alloc]; omega) HB1.out.size HBA.out.size HCA.out)
      clear hB HCA
      generalize (hd cap bits ++ []).length = N at *
      go_wp2_with fail
      refine HDS.out.mono ?_
      clear HDS
      rintro e w3 ⟨rfl, hC3, hB3⟩
      obtain ⟨b0, b1, b2, b3, b4, b5, b6, _⟩ := hC3
      have HB3 := (show Hid (Below wc.heap.size wc w3) from HBA.out.trans hB3)
      clear hB3 HBA
      go_wp2
      go_ret
      exact ⟨rfl, HB3.out⟩

set_option maxRecDepth 100000 in
set_option maxHeartbeats 1600000 in
theorem trip1 (s : Nat) (cap : Int) (bits : Nat) (ex : Int) (ns : Bool) (win st : Nat) (pr : Int) (pb : Bool) (w : World) (hs : s < 256) (hs3 : s % 3 = 1)
    (h0 : -9223372036854775808 ≤ cap) (h1 : cap ≤ 9223372036854775807) (hb : bits < 18446744073709551616) (e0 : -9223372036854775808 ≤ ex) (e1 : ex ≤ 9223372036854775807) (hwin : win < 18446744073709551616) (hst : st < 18446744073709551616) :
    Calls Ybad.prog 3 #[.int .u8 (s : Int), .int .i64 cap, .int .u64 (bits : Int), .int .i64 ex, .bool ns, .int .u64 (win : Int), .int .u64 (st : Int), .int .i64 pr, .bool pb] w fun e w' => e = .returned (.bool true) ∧ Below w.heap.size w w' := by
  have hsel : Int.tmod (s : Int) 3 = 1 := by rw [Int.tmod_eq_emod_of_nonneg (by omega)]; omega
  have hk1 := mask63 win hwin
  have hk2 := mask63 st hst
  have hm1 : win % 9223372036854775808 < 9223372036854775808 := Nat.mod_lt _ (by decide)
  have hm2 : st % 9223372036854775808 < 9223372036854775808 := Nat.mod_lt _ (by decide)
  generalize win % 9223372036854775808 = W at *
  generalize st % 9223372036854775808 = S at *
  go_enter Ybad.func3, Ybad.ntmps3
  go_upto_if 32 with fail
  go_cut [20] (fun v wx => (∃ W' : Nat, v = .int .u64 (W' : Int) ∧ 1 ≤ W' ∧ W' ≤ 9223372036854775807) ∧ wx = w)
  case first =>
    by_cases hW0 : W = 0
    · subst hW0
      go_wp2
      go_meet
      case rel => exact ⟨⟨1, rfl, by decide, by decide⟩, rfl⟩
    · go_wp2
      go_meet
      case rel => exact ⟨⟨W, rfl, by omega, by omega⟩, rfl⟩
  case rest =>
    obtain ⟨⟨W', rfl, hW1, hW2⟩, rfl⟩ := hcut
    clear hk1 hm1
    obtain ⟨wa, rfl⟩ : ∃ wa : World, wa = wc := ⟨_, rfl⟩
    go_upto_if 35 with fail
    go_cut [22] (fun v wx => (∃ F : Nat, v = .int .u8 (F : Int) ∧ F ≤ 1 ∧ ((F : Int) == 1) = ns) ∧ wx = wa)
    case first =>
      cases ns
      · go_wp2
        go_meet
        case rel => exact ⟨⟨0, rfl, by decide, by decide⟩, rfl⟩
      · go_wp2
        go_meet
        case rel => exact ⟨⟨1, rfl, by decide, by decide⟩, rfl⟩
    case rest =>
      obtain ⟨⟨F, rfl, hF1, hnb⟩, rfl⟩ := hcut
      have HNB : Hid (((F : Int) == 1) = ns) := hnb
      clear hnb
      have hF3 : F < 256 := by omega
      have HEN := (show Hid (Calls Ybad.prog 5 #[.int .i64 1, .int .i64 cap, .int .u64 bits, .int .i64 ex, .int .u8 (F : Int), .int .u64 (W' : Int), .int .u64 (S : Int)] wc (Wrote (hd cap bits ++ md ex F) wc)) from enc1 cap bits ex F _ _ wc h0 h1 hb e0 e1 hF3)
      go_wp2_with fail
      refine HEN.out.mono ?_
      clear HEN
      rintro e w1 ⟨v1, rfl, ho1, hb1⟩
      rw [show (hd cap bits ++ md ex F) = (hd cap bits ++ (Lib.uvarint (Lib.zigzag ex) ++ (F.toUInt8 :: []))) by simp [md]] at ho1
      have hl0 : 0 < (hd cap bits ++ (Lib.uvarint (Lib.zigzag ex) ++ (F.toUInt8 :: []))).length := by rw [List.length_append, hd_length]; omega
      have hl1 : (hd cap bits ++ (Lib.uvarint (Lib.zigzag ex) ++ (F.toUInt8 :: []))).length ≤ 100 := by
        have := Lib.uvarint_length64 (zigzag_lt h0 h1)
        have := Lib.uvarint_length64 (zigzag_lt e0 e1)
        simp only [List.length_append, hd_length, List.length_cons, List.length_nil]; omega
      obtain ⟨g, c, rfl, hg1, hg2, hc1, hc2, hB⟩ := own_bytes ho1 hl0
      have HB1 : Hid (Below wc.heap.size wc w1) := hb1
      clear ho1 hb1
      have hsf := store_float 4602678819172646912
      have hbr := bits_run bits
      have HBA : Hid (Below wc.heap.size wc (w1.alloc (.cells #[.int .i64 pr, .float .f64 4602678819172646912, .int .i64 pr, .bool pb, .bool pb, .int .i64 pr, .int .i64 pr] 27))) := HB1.out.alloc HB1.out.size _
      have HCA : Hid (Cfg (w1.alloc (.cells #[.int .i64 pr, .float .f64 4602678819172646912, .int .i64 pr, .bool pb, .bool pb, .int .i64 pr, .int .i64 pr] 27)) w1.heap.size (.int .i64 pr) (.float .f64 4602678819172646912) (.int .i64 pr) (.bool pb) (.bool pb) (.int .i64 pr) (.int .i64 pr)) := cfg_new _ _ _ _ _ _ _ _
      have HDS := (show Hid (Calls Ybad.prog 6 #[.slice (some ⟨g, 0, none⟩) (hd cap bits ++ (Lib.uvarint (Lib.zigzag ex) ++ (F.toUInt8 :: []))).length c, .pointer (some ⟨w1.heap.size, 0, none⟩)] (w1.alloc (.cells #[.int .i64 pr, .float .f64 4602678819172646912, .int .i64 pr, .bool pb, .bool pb, .int .i64 pr, .int .i64 pr] 27)) fun e w' => e = .returned .nilIface ∧ Cfg w' w1.heap.size (.int .i64 cap) (.float .f64 bits) (.int .i64 ex) (.bool ns) (.bool pb) (.int .i64 pr) (.int .i64 pr) ∧ Below wc.heap.size (w1.alloc (.cells #[.int .i64 pr, .float .f64 4602678819172646912, .int .i64 pr, .bool pb, .bool pb, .int .i64 pr, .int .i64 pr] 27)) w') from
        dec1 wc.heap.size g 0 _ c w1.heap.size cap bits ex F ns _ _ _ _ _ _ _ _ (hB.below ((Below.refl w1.heap.size w1).alloc (Nat.le_refl _) _) hg2) rfl hl1 hc1 hc2 h0 h1 hb (by omega) (by rw [World.size_alloc]; omega) HB1.out.size HBA.out.size HCA.out e0 e1 hF3 hF1 HNB.out)
      clear hB HCA
      generalize (hd cap bits ++ (Lib.uvarint (Lib.zigzag ex) ++ (F.toUInt8 :: []))).length = N at *
      go_wp2_with fail
      refine HDS.out.mono ?_
      clear HDS
      rintro e w3 ⟨rfl, hC3, hB3⟩
      obtain ⟨b0, b1, b2, b3, b4, b5, b6, _⟩ := hC3
      have HB3 := (show Hid (Below wc.heap.size wc w3) from HBA.out.trans hB3)
      clear hB3 HBA
      go_wp2
      go_ret
      exact ⟨rfl, HB3.out⟩

set_option maxRecDepth 100000 in
set_option maxHeartbeats 1600000 in
theorem trip2 (s : Nat) (cap : Int) (bits : Nat) (ex : Int) (ns : Bool) (win st : Nat) (pr : Int) (pb : Bool) (w : World) (hs : s < 256) (hs3 : s % 3 = 2)
    (h0 : -9223372036854775808 ≤ cap) (h1 : cap ≤ 9223372036854775807) (hb : bits < 18446744073709551616) (e0 : -9223372036854775808 ≤ ex) (e1 : ex ≤ 9223372036854775807) (hwin : win < 18446744073709551616) (hst : st < 18446744073709551616) :
    Calls Ybad.prog 3 #[.int .u8 (s : Int), .int .i64 cap, .int .u64 (bits : Int), .int .i64 ex, .bool ns, .int .u64 (win : Int), .int .u64 (st : Int), .int .i64 pr, .bool pb] w fun e w' => e = .returned (.bool true) ∧ Below w.heap.size w w' := by
  have hsel : Int.tmod (s : Int) 3 = 2 := by rw [Int.tmod_eq_emod_of_nonneg (by omega)]; omega
  have hk1 := mask63 win hwin
  have hk2 := mask63 st hst
  have hm1 : win % 9223372036854775808 < 9223372036854775808 := Nat.mod_lt _ (by decide)
  have hm2 : st % 9223372036854775808 < 9223372036854775808 := Nat.mod_lt _ (by decide)
  generalize win % 9223372036854775808 = W at *
  generalize st % 9223372036854775808 = S at *
  go_enter Ybad.func3, Ybad.ntmps3
  go_upto_if 32 with fail
  go_cut [20] (fun v wx => (∃ W' : Nat, v = .int .u64 (W' : Int) ∧ 1 ≤ W' ∧ W' ≤ 9223372036854775807) ∧ wx = w)
  case first =>
    by_cases hW0 : W = 0
    · subst hW0
      go_wp2
      go_meet
      case rel => exact ⟨⟨1, rfl, by decide, by decide⟩, rfl⟩
    · go_wp2
      go_meet
      case rel => exact ⟨⟨W, rfl, by omega, by omega⟩, rfl⟩
  case rest =>
    obtain ⟨⟨W', rfl, hW1, hW2⟩, rfl⟩ := hcut
    clear hk1 hm1
    obtain ⟨wa, rfl⟩ : ∃ wa : World, wa = wc := ⟨_, rfl⟩
    go_upto_if 35 with fail
    go_cut [22] (fun v wx => (∃ F : Nat, v = .int .u8 (F : Int) ∧ F ≤ 1 ∧ ((F : Int) == 1) = ns) ∧ wx = wa)
    case first =>
      cases ns
      · go_wp2
        go_meet
        case rel => exact ⟨⟨0, rfl, by decide, by decide⟩, rfl⟩
      · go_wp2
        go_meet
        case rel => exact ⟨⟨1, rfl, by decide, by decide⟩, rfl⟩
    case rest =>
      obtain ⟨⟨F, rfl, hF1, hnb⟩, rfl⟩ := hcut
      have HNB : Hid (((F : Int) == 1) = ns) := hnb
      clear hnb
      have hF3 : F < 256 := by omega
      have HEN := (show Hid (Calls Ybad.prog 5 #[.int .i64 2, .int .i64 cap, .int .u64 bits, .int .i64 ex, .int .u8 (F : Int), .int .u64 (W' : Int), .int .u64 (S : Int)] wc (Wrote (hd cap bits ++ md ex F ++ tl W' S) wc)) from enc2 cap bits ex F W' S wc h0 h1 hb e0 e1 hF3 (by omega) (by omega))
      go_wp2_with fail
      refine HEN.out.mono ?_
      clear HEN
      rintro e w1 ⟨v1, rfl, ho1, hb1⟩
      rw [show (hd cap bits ++ md ex F ++ tl W' S) = (hd cap bits ++ (Lib.uvarint (Lib.zigzag ex) ++ (F.toUInt8 :: (Lib.uvarint W' ++ (Lib.uvarint S ++ []))))) by simp [md, tl]] at ho1
      have hl0 : 0 < (hd cap bits ++ (Lib.uvarint (Lib.zigzag ex) ++ (F.toUInt8 :: (Lib.uvarint W' ++ (Lib.uvarint S ++ []))))).length := by rw [List.length_append, hd_length]; omega
      have hl1 : (hd cap bits ++ (Lib.uvarint (Lib.zigzag ex) ++ (F.toUInt8 :: (Lib.uvarint W' ++ (Lib.uvarint S ++ []))))).length ≤ 100 := by
        have := Lib.uvarint_length64 (zigzag_lt h0 h1)
        have := Lib.uvarint_length64 (zigzag_lt e0 e1)
        have := Lib.uvarint_length64 (show S < 18446744073709551616 by omega)
        have := Lib.uvarint_length64 (show W' < 18446744073709551616 by omega)
        simp only [List.length_append, hd_length, List.length_cons, List.length_nil]; omega
      obtain ⟨g, c, rfl, hg1, hg2, hc1, hc2, hB⟩ := own_bytes ho1 hl0
      have HB1 : Hid (Below wc.heap.size wc w1) := hb1
      clear ho1 hb1
      have hsf := store_float 4602678819172646912
      have hbr := bits_run bits
      have HBA : Hid (Below wc.heap.size wc (w1.alloc (.cells #[.int .i64 pr, .float .f64 4602678819172646912, .int .i64 pr, .bool pb, .bool pb, .int .i64 pr, .int .i64 pr] 27))) := HB1.out.alloc HB1.out.size _
      have HCA : Hid (Cfg (w1.alloc (.cells #[.int .i64 pr, .float .f64 4602678819172646912, .int .i64 pr, .bool pb, .bool pb, .int .i64 pr, .int .i64 pr] 27)) w1.heap.size (.int .i64 pr) (.float .f64 4602678819172646912) (.int .i64 pr) (.bool pb) (.bool pb) (.int .i64 pr) (.int .i64 pr)) := cfg_new _ _ _ _ _ _ _ _
      have HDS := (show Hid (Calls Ybad.prog 6 #[.slice (some ⟨g, 0, none⟩) (hd cap bits ++ (Lib.uvarint (Lib.zigzag ex) ++ (F.toUInt8 :: (Lib.uvarint W' ++ (Lib.uvarint S ++ []))))).length c, .pointer (some ⟨w1.heap.size, 0, none⟩)] (w1.alloc (.cells #[.int .i64 pr, .float .f64 4602678819172646912, .int .i64 pr, .bool pb, .bool pb, .int .i64 pr, .int .i64 pr] 27)) fun e w' => e = .returned .nilIface ∧ Cfg w' w1.heap.size (.int .i64 cap) (.float .f64 bits) (.int .i64 ex) (.bool ns) (.bool pb) (.int .i64 (W' : Int)) (.int .i64 (S : Int)) ∧ Below wc.heap.size (w1.alloc (.cells #[.int .i64 pr, .float .f64 4602678819172646912, .int .i64 pr, .bool pb, .bool pb, .int .i64 pr, .int .i64 pr] 27)) w') from
        dec2 wc.heap.size g 0 _ c w1.heap.size cap bits ex F ns W' S _ _ _ _ _ _ _ _ (hB.below ((Below.refl w1.heap.size w1).alloc (Nat.le_refl _) _) hg2) rfl hl1 hc1 hc2 h0 h1 hb (by omega) (by rw [World.size_alloc]; omega) HB1.out.size HBA.out.size HCA.out e0 e1 hF3 hF1 HNB.out hW1 hW2 (by omega))
      clear hB HCA
      generalize (hd cap bits ++ (Lib.uvarint (Lib.zigzag ex) ++ (F.toUInt8 :: (Lib.uvarint W' ++ (Lib.uvarint S ++ []))))).length = N at *
      go_wp2_with fail
      refine HDS.out.mono ?_
      clear HDS
      rintro e w3 ⟨rfl, hC3, hB3⟩
      obtain ⟨b0, b1, b2, b3, b4, b5, b6, _⟩ := hC3
      have HB3 := (show Hid (Below wc.heap.size wc w3) from HBA.out.trans hB3)
      clear hB3 HBA
      go_wp2
      go_ret
      exact ⟨rfl, HB3.out⟩

/-- EVERY INPUT: 'true'; of what was there nothing has turned. -/
theorem trip_any (s : Nat) (cap : Int) (bits : Nat) (ex : Int) (ns : Bool) (win st : Nat) (pr : Int) (pb : Bool) (w : World) (hs : s < 256)
    (h0 : -9223372036854775808 ≤ cap) (h1 : cap ≤ 9223372036854775807) (hb : bits < 18446744073709551616) (e0 : -9223372036854775808 ≤ ex) (e1 : ex ≤ 9223372036854775807) (hwin : win < 18446744073709551616) (hst : st < 18446744073709551616) :
    Calls Ybad.prog 3 #[.int .u8 (s : Int), .int .i64 cap, .int .u64 (bits : Int), .int .i64 ex, .bool ns, .int .u64 (win : Int), .int .u64 (st : Int), .int .i64 pr, .bool pb] w fun e w' => e = .returned (.bool true) ∧ Below w.heap.size w w' := by
  have h3 : s % 3 = 0 ∨ s % 3 = 1 ∨ s % 3 = 2 := by omega
  rcases h3 with h | h | h
  · exact trip0 s cap bits ex ns win st pr pb w hs h h0 h1 hb e0 e1 hwin hst
  · exact trip1 s cap bits ex ns win st pr pb w hs h h0 h1 hb e0 e1 hwin hst
  · exact trip2 s cap bits ex ns win st pr pb w hs h h0 h1 hb e0 e1 hwin hst

end Go.Proofs.YbulkceusDoor
