/-
  DERIVED. backup.LawS4046APick: THE WALK.
-/
import Derived.Test.YbulkcetqProg
import Derived.Test.YbulkcetqAInv
import Derived.WalkKit
import Derived.WalkSpells
import Derived.WalkLawsBesides
import Derived.Deep.DeepCutAuto
import Derived.Deep.CutBlock
import Derived.Deep.RegionHeld3
import Derived.Deep.DrawnRows
import Derived.BigQuiet
namespace Go.Proofs.Ybulkcetq
open Go.RowKit

theorem eqg28 : Yba.prog.eqGuardType Yba.prog.depth 28 = false := by kernel_rfl
theorem eq_id0 (W : World) : (Op.equalIn 10000 28 (.agg (idC 0).toArray) (.agg (idC 0).toArray)).run Yba.prog W = .ok true W := by kernel_rfl
theorem eq_id1 (W : World) : (Op.equalIn 10000 28 (.agg (idC 1).toArray) (.agg (idC 1).toArray)).run Yba.prog W = .ok true W := by kernel_rfl
theorem eq_id2 (W : World) : (Op.equalIn 10000 28 (.agg (idC 2).toArray) (.agg (idC 2).toArray)).run Yba.prog W = .ok true W := by kernel_rfl
theorem eq_id3 (W : World) : (Op.equalIn 10000 28 (.agg (idC 3).toArray) (.agg (idC 3).toArray)).run Yba.prog W = .ok true W := by kernel_rfl
theorem eq_id4 (W : World) : (Op.equalIn 10000 28 (.agg (idC 4).toArray) (.agg (idC 4).toArray)).run Yba.prog W = .ok true W := by kernel_rfl
theorem eq_id5 (W : World) : (Op.equalIn 10000 28 (.agg (idC 5).toArray) (.agg (idC 5).toArray)).run Yba.prog W = .ok true W := by kernel_rfl
theorem eq_id (k : Nat) (hk : k < 6) (W : World) : (Op.equalIn 10000 28 (.agg (idC k).toArray) (.agg (idC k).toArray)).run Yba.prog W = .ok true W := by
  have hc : k = 0 ∨ k = 1 ∨ k = 2 ∨ k = 3 ∨ k = 4 ∨ k = 5 := by omega
  rcases hc with rfl | rfl | rfl | rfl | rfl | rfl
  · exact eq_id0 W
  · exact eq_id1 W
  · exact eq_id2 W
  · exact eq_id3 W
  · exact eq_id4 W
  · exact eq_id5 W

set_option maxRecDepth 100000 in
set_option maxHeartbeats 1000000 in
theorem apick_main (w : World) (a0 : Option Addr) (n hc : Nat) (A : Nat → Option Addr) (L C : Nat → Nat) (Z : Nat → Nat → Int) (aa : Option Addr) (la ac : Nat) (Y : Nat → Int) (ha : Option Addr) (lh hcap : Nat) (H0 : Nat → Bool)
    (hA : AArg w a0 n A L C Z aa la Y ha lh H0) (hn2 : n ≤ 1024) (hla : la ≤ 1024) (hL : ∀ i, i < n → L i ≤ 1024) :
    Calls Yba.prog 3 #[.slice a0 n hc, .slice aa la ac, .slice ha lh hcap] w fun e w' => e = .returned (.bool true) ∧ Below w.heap.size w w' := by
  obtain ⟨N, hN0, hN1⟩ : ∃ N : Nat, (n = 0 → N = 1) ∧ (n ≠ 0 → N = n) := by
    by_cases h : n = 0
    · exact ⟨1, fun _ => rfl, fun h' => absurd h h'⟩
    · exact ⟨n, fun h' => absurd h' h, fun _ => rfl⟩
  have hNn : n ≤ N ∧ 1 ≤ N ∧ N ≤ 1024 := by
    by_cases h : n = 0
    · have := hN0 h; omega
    · have := hN1 h; omega
  obtain ⟨i34, h34, z34, s34, b34⟩ := info_parts info34
  obtain ⟨i28, h28, z28, s28, b28⟩ := info_parts info28
  obtain ⟨i4, h4, z4, s4, b4⟩ := info_parts info4
  have HI34 : Hid (Yba.prog.info? 34 = some i34 ∧ i34.zero = some (.agg #[.int .i64 0, .slice none 0 0, .string ⟨#[]⟩, .map none]) ∧ i34.size = 4 ∧ i34.bytes = 56) := show _ ∧ _ from ⟨h34, z34, s34, b34⟩
  have HI28 : Hid (Yba.prog.info? 28 = some i28 ∧ i28.zero = some (.agg zeroC.toArray) ∧ i28.size = 32 ∧ i28.bytes = 32) := show _ ∧ _ from ⟨h28, z28, s28, b28⟩
  have HI4 : Hid (Yba.prog.info? 4 = some i4 ∧ i4.zero = some (.bool false) ∧ i4.size = 1 ∧ i4.bytes = 1) := show _ ∧ _ from ⟨h4, z4, s4, b4⟩
  clear h34 z34 s34 b34 h28 z28 s28 b28 h4 z4 s4 b4
  have HA : Hid (AArg w a0 n A L C Z aa la Y ha lh H0) := hA
  clear hA
  have HN0 : Hid (n = 0 → N = 1) := hN0
  have HN1 : Hid (n ≠ 0 → N = n) := hN1
  clear hN0 hN1
  go_enter Yba.func3, Yba.ntmps3
  go_wp2
  go_loop [7] (fun i => ∃ k : Nat, k ≤ n ∧ i = .int .i64 k) (fun i => n - (intOf i).toNat)
  case atStart => exact ⟨0, Nat.zero_le _, rfl⟩
  case round =>
    obtain ⟨k, hk, rfl⟩ := hrel
    by_cases hlt : k < n
    · obtain ⟨hb, ho, rfl, hrow⟩ := HA.out.row k hlt
      have hl := hL k hlt
      go_wp2
      go_round
      case rel => exact ⟨k + 1, by omega, by go_num⟩
      case measure => simp [intOf]; omega
    · obtain rfl : n = k := by omega
      go_upto_if 48 with fail
      go_cut [8] from 47 to 48 (fun v wx => v = .int .i64 N ∧ wx = w)
      case first =>
        by_cases hn0 : n = 0
        · have HE : Hid (n = 0) := hn0
          have hz1 : ((n : Int) == 0) = true := by rw [beq_iff_eq]; omega
          clear hn0
          go_wp2_with fail
          go_meet
          case rel => exact ⟨by rw [HN0.out HE.out]; rfl, rfl⟩
        · have HE : Hid (n ≠ 0) := hn0
          have hz1 : ((n : Int) == 0) = false := by rw [beq_eq_false_iff_ne]; omega
          clear hn0
          go_wp2_with fail
          go_meet
          case rel => exact ⟨by rw [HN1.out HE.out], rfl⟩
      case rest =>
        obtain ⟨rfl, rfl⟩ := hcut
        go_wp2_with (at_make; refine wpList_make_full _ rfl (.tmp 49) (.tmp 49) 25 rfl wc.heap.size 34 i34 (.agg #[.int .i64 0, .slice none 0 0, .string ⟨#[]⟩, .map none]) 4 Yba.underlying25 HI34.out.1 HI34.out.2.1 HI34.out.2.2.1 .i64 .i64 N N N rfl rfl rfl rfl (by rw [HI34.out.2.2.2]; omega) (by unfold maxLen; omega) (Nat.le_refl _) ?_; intro w1 hown1 hgrow1)
        have h0 : AInv wc w1 N n 0 L Z := AInv.start HN0.out hown1 hgrow1
        clear hown1 hgrow1
        go_loopw [10] (fun i wr => ∃ k : Nat, k ≤ n ∧ i = .int .i64 k ∧ AInv wc wr N n k L Z) (fun i _ => n - (intOf i).toNat)
        case atStart => exact ⟨0, Nat.zero_le _, rfl, h0⟩
        case round =>
          clear h0
          obtain ⟨k, hk, rfl, hinv⟩ := hrel
          obtain ⟨wo, rfl⟩ : ∃ wo : World, wo = wr := ⟨_, rfl⟩
          by_cases hlt : k < n
          · obtain ⟨hb, ho, rfl, hrow0⟩ := HA.out.row k hlt
            have hrow : wo.cell? ⟨hb, ho + k, none⟩ = some (.slice (A k) (L k) (C k)) := (hinv.bel.cell (p := ⟨hb, ho + k, none⟩) (World.block_lt_of_cell? _ _ hrow0)).trans hrow0
            have hbhb : hb < wc.heap.size := World.block_lt_of_cell? wc ⟨hb, ho + k, none⟩ hrow0
            have hl := hL k hlt
            have hel := HA.out.el k hlt
            generalize A k = Ak at hrow hel
            have HE : Hid (SlOf wc Ak (L k) (fun j => .int .u8 (Z k j))) := hel
            clear hrow0 hel
            go_wp2_with (at_make; refine wpList_make_full _ rfl (.tmp 61) (.tmp 61) 26 rfl wo.heap.size 28 i28 (.agg zeroC.toArray) 32 Yba.underlying26 HI28.out.1 HI28.out.2.1 HI28.out.2.2.1 .i64 .i64 (L k) (L k) (L k) rfl rfl rfl rfl (by rw [HI28.out.2.2.2]; omega) (by unfold maxLen; omega) (Nat.le_refl _) ?_; intro w2 hown2 hgrow2; have hrow2 := hgrow2.cell hrow (fun h => by cases h))
            have hf0 : FInv wo w2 wo.heap.size (L k) 0 (fun j => codeN (Z k j)) := FInv.start hown2 hgrow2
            have hS := hinv.bel.size
            have hSlt := hinv.lt
            have HinvO : Hid (AInv wc wo N n k L Z) := hinv
            clear hown2 hgrow2 hrow hrow2 hinv
            go_loopw [68] (fun i wr => ∃ q : Nat, q ≤ L k ∧ i = .int .i64 q ∧ FInv wo wr wo.heap.size (L k) q (fun j => codeN (Z k j))) (fun i _ => L k - (intOf i).toNat)
            case atStart => exact ⟨0, Nat.zero_le _, rfl, hf0⟩
            case round =>
              clear hf0
              obtain ⟨q, hq, rfl, hf⟩ := hrel
              by_cases hqlt : q < L k
              · obtain ⟨b, o, rfl, hcel0⟩ := HE.out q hqlt
                have hcel := ((HinvO.out.bel.trans (hf.bel.mono hS)).cell (p := ⟨b, o + q, none⟩) (World.block_lt_of_cell? _ _ hcel0)).trans hcel0
                have hz := HA.out.rng k q
                clear hcel0
                have hcd : ((codeN (Z k q) : Nat) : Int) = Z k q % 6 := by unfold codeN; omega
                have HC := (show Hid (∀ w', Calls Yba.prog 5 #[.int .u8 (Z k q % 6)] w' fun e w'' => e = .returned (.agg (idC (codeN (Z k q))).toArray) ∧ Below w'.heap.size w' w'') from fun w' => by rw [← hcd]; exact aid_any _ (codeN_lt _) w')
                clear hcd
                go_wp2_with fail
                refine (HC.out _).mono ?_
                rintro e w5 ⟨rfl, hb5⟩
                have hf5 := hf.below hb5
                have HT : Hid (w5.there wo.heap.size (q * 32) (idC (codeN (Z k q))).toArray.size) := by
                  show w5.there wo.heap.size (q * 32) (idC (codeN (Z k q))).toArray.size
                  rw [idA_size]; exact hf5.at' hqlt
                have HF : Hid (FInv wo (w5.setCells wo.heap.size (q * 32) (idC (codeN (Z k q)))) wo.heap.size (L k) (q + 1) (fun j => codeN (Z k j))) := hf5.put hqlt
                clear hf5 hf hcel
                have tok1 : True := trivial
                go_wp2_with (have _t := tok1; refine wpList_store_mid (by rfl) 28 (.tmp 78) (.tmp 77) (by rfl) wo.heap.size (q * 32) (idC (codeN (Z k q))).toArray (by rfl) (by rfl) HT.out (size28' _) (all_oneCell_toArray (idC_one _)) ?_; clear tok1)
                go_roundw
                case rel => exact ⟨q + 1, by omega, by go_num, HF.out⟩
                case measure => simp [intOf]; omega
              · obtain rfl : q = L k := by omega
                have hinv2 := HinvO.out.below hf.bel
                have hids := hf.ids wc.heap.size hSlt
                have HT : Hid (wr.there wc.heap.size (k * 4) (recC (k : Int) (some ⟨wo.heap.size, 0, none⟩) (L k) (L k) nn).toArray.size) := fun j hj => by
                  have hj' : j < 4 := hj
                  have := hinv2.th (k * 4 + j) (by omega)
                  rwa [Nat.zero_add] at this
                have HP : Hid (AInv wc (wr.setCells wc.heap.size (k * 4) (recC (k : Int) (some ⟨wo.heap.size, 0, none⟩) (L k) (L k) nn)) N n (k + 1) L Z) := hinv2.put hlt (by omega) _ _ hids
                have HO1 : Hid ((recC (k : Int) (some ⟨wo.heap.size, 0, none⟩) (L k) (L k) nn).toArray.all (·.oneCell') = true) := recC_one _ _ _ _ _
                clear hinv2 hids hf
                have tok1 : True := trivial
                go_wp2_with (have _t := tok1; refine wpList_store_mid (by rfl) 34 (.tmp 86) (.tmp 85) (by rfl) wc.heap.size (k * 4) (recC (k : Int) (some ⟨wo.heap.size, 0, none⟩) (L k) (L k) nn).toArray (by rfl) (by rfl) HT.out size34 HO1.out ?_; clear tok1)
                go_roundw
                case rel => exact ⟨k + 1, by omega, by go_num, HP.out⟩
                case measure => simp [intOf]; omega
          · obtain rfl : n = k := by omega
            have hS := hinv.bel.size
            have hSlt := hinv.lt
            go_wp2_with (first
              | (at_make; refine wpList_make_full _ rfl (.tmp 88) (.tmp 88) 24 rfl wo.heap.size 4 i4 (.bool false) 1 Yba.underlying24 HI4.out.1 HI4.out.2.1 HI4.out.2.2.1 .i64 .i64 la la la rfl rfl rfl rfl (by rw [HI4.out.2.2.2]; omega) (by unfold maxLen; omega) (Nat.le_refl _) ?_; intro w1 hown1 hgrow1)
              | (at_make; refine wpList_make_full _ rfl (.tmp 91) (.tmp 91) 26 rfl w1.heap.size 28 i28 (.agg zeroC.toArray) 32 Yba.underlying26 HI28.out.1 HI28.out.2.1 HI28.out.2.2.1 .i64 .i64 la la la rfl rfl rfl rfl (by rw [HI28.out.2.2.2]; omega) (by unfold maxLen; omega) (Nat.le_refl _) ?_; intro w2 hown2 hgrow2))
            have hv1 : HInv w1 wo.heap.size la 0 lh H0 := HInv.start hown1
            have hb1 : Below wo.heap.size wo w1 := (Below.refl _ _).grown hgrow1 (Nat.le_refl _) (fun _ h => by cases h)
            have hf00 : FInv w1 w2 w1.heap.size la 0 (fun j => codeN (Y j)) := FInv.start hown2 hgrow2
            have hv0 : HInv w2 wo.heap.size la 0 lh H0 := hv1.below hf00.bel
            have hf0 := hf00.base hb1
            have hS1 := hb1.size
            have hlt1 : wo.heap.size < w1.heap.size := hv1.lt
            have HinvO : Hid (AInv wc wo N n n L Z) := hinv
            clear hown1 hgrow1 hown2 hgrow2 hinv hv1 hf00
            go_loopw [16] (fun i wr => ∃ q : Nat, q ≤ la ∧ i = .int .i64 q ∧ FInv wo wr w1.heap.size la q (fun j => codeN (Y j)) ∧ HInv wr wo.heap.size la q lh H0) (fun i _ => la - (intOf i).toNat)
            case atStart => exact ⟨0, Nat.zero_le _, rfl, hf0, hv0⟩
            case round =>
              clear hf0 hv0
              obtain ⟨q, hq, rfl, hf, hv⟩ := hrel
              by_cases hqlt : q < la
              · obtain ⟨b, o, rfl, hcel0⟩ := HA.out.ids q hqlt
                have hcel : wr.cell? ⟨b, o + q, none⟩ = some (.int .u8 (Y q)) := ((HinvO.out.bel.trans (hf.bel.mono hS)).cell (p := ⟨b, o + q, none⟩) (World.block_lt_of_cell? _ _ hcel0)).trans hcel0
                have hz := HA.out.irng q
                clear hcel0
                have hcd : ((codeN (Y q) : Nat) : Int) = Y q % 6 := by unfold codeN; omega
                have HC := (show Hid (∀ w', Calls Yba.prog 5 #[.int .u8 (Y q % 6)] w' fun e w'' => e = .returned (.agg (idC (codeN (Y q))).toArray) ∧ Below w'.heap.size w' w'') from fun w' => by rw [← hcd]; exact aid_any _ (codeN_lt _) w')
                clear hcd
                go_wp2_with fail
                refine (HC.out _).mono ?_
                rintro e w5 ⟨rfl, hb5⟩
                have hf5 := hf.below hb5
                have hv5 := hv.below hb5
                have HT : Hid (w5.there w1.heap.size (q * 32) (idC (codeN (Y q))).toArray.size) := by
                  show w5.there w1.heap.size (q * 32) (idC (codeN (Y q))).toArray.size
                  rw [idA_size]; exact hf5.at' hqlt
                have hf6 := hf5.put hqlt
                have hv6 := hv5.far (g := w1.heap.size) (by omega) (q * 32) (idC (codeN (Y q)))
                clear hf5 hf hcel hv hv5
                have tok1 : True := trivial
                go_upto_if 111 with (have _t := tok1; refine wpList_store_mid (by rfl) 28 (.tmp 107) (.tmp 106) (by rfl) w1.heap.size (q * 32) (idC (codeN (Y q))).toArray (by rfl) (by rfl) HT.out (size28' _) (all_oneCell_toArray (idC_one _)) ?_; clear tok1)
                clear HT
                change FInv wo (w5.setCells w1.heap.size (q * 32) (idC (codeN (Y q))).toArray.toList) _ _ _ _ at hf6
                change HInv (w5.setCells w1.heap.size (q * 32) (idC (codeN (Y q))).toArray.toList) _ _ _ _ _ at hv6
                generalize (w5.setCells w1.heap.size (q * 32) (idC (codeN (Y q))).toArray.toList) = w6 at *
                by_cases hql : q < lh
                · obtain ⟨b2, o2, rfl, hcel0⟩ := HA.out.held q hql
                  have hcel2 : w6.cell? ⟨b2, o2 + q, none⟩ = some (.bool (H0 q)) := ((HinvO.out.bel.trans (hf6.bel.mono hS)).cell (p := ⟨b2, o2 + q, none⟩) (World.block_lt_of_cell? _ _ hcel0)).trans hcel0
                  have hcl := hv6.cl q hqlt
                  have hfr := hv6.fr q
                  have HF : Hid (FInv wo (w6.setCell ⟨wo.heap.size, q, none⟩ (.bool (H0 q))) w1.heap.size la (q + 1) (fun j => codeN (Y j))) := hf6.setFar (Nat.le_refl _) (by omega)
                  have HV : Hid (HInv (w6.setCell ⟨wo.heap.size, q, none⟩ (.bool (H0 q))) wo.heap.size la (q + 1) lh H0) := hv6.put hqlt hql
                  clear hf6 hv6 hcel0
                  go_wp2_with fail
                  go_roundw
                  case rel => exact ⟨q + 1, by omega, by go_num, HF.out, HV.out⟩
                  case measure => simp [intOf]; omega
                · have HV : Hid (HInv w6 wo.heap.size la (q + 1) lh H0) := hv6.skip hql
                  go_wp2_with fail
                  go_roundw
                  case rel => exact ⟨q + 1, by omega, by go_num, hf6, HV.out⟩
                  case measure => simp [intOf]; omega
              · obtain rfl : la = q := by omega
                have hbo := HinvO.out.bel.trans (hf.bel.mono hS)
                have hSo := hf.bel.size
                have hinvL := HinvO.out.below hf.bel
                by_cases hn0 : n = 0
                · obtain rfl : N = 1 := HN0.out hn0
                  have hla0 : LArg wr wc.heap.size 1 (fun _ => 0) (fun _ => none) (fun _ => 0) (fun _ => 0) (fun _ => ⟨#[]⟩) Z (some ⟨w1.heap.size, 0, none⟩) la Y (some ⟨wo.heap.size, 0, none⟩) (hh lh H0) := AInv.larg0 (by rw [hn0] at hinvL; exact hinvL) hf hv
                  have hz1 : ((n : Int) == 0) = true := by rw [beq_iff_eq]; omega
                  clear hn0 hinvL HinvO HN0 HN1 hf hv
                  go_wp2_with fail
                  refine (likeliest_any wr wc.heap.size 1 _ _ _ _ _ Z _ la la Y _ la _ hla0 (Nat.le_refl _) (by omega) hla _ rfl).mono ?_
                  rintro e w5 ⟨rfl, hb5⟩
                  have HT : Hid ((w5.alloc (.cells #[.int .i64 0, .slice none 0 0, .string ⟨#[]⟩, .map none] 34)).there w5.heap.size 0 (recC 0 none 0 0 ⟨#[]⟩).toArray.size) := there_new w5 [.int .i64 0, .slice none 0 0, .string ⟨#[]⟩, .map none] 34 4 rfl
                  have hc0 : ((w5.alloc (.cells #[.int .i64 0, .slice none 0 0, .string ⟨#[]⟩, .map none] 34)).setCells w5.heap.size 0 (recC 0 none 0 0 ⟨#[]⟩).toArray.toList).cell? ⟨w5.heap.size, 0, none⟩ = some (.int .i64 0) := World.rangeAt_setCells_same _ _ _ _ HT.out 0 _ rfl
                  have hc1 : ((w5.alloc (.cells #[.int .i64 0, .slice none 0 0, .string ⟨#[]⟩, .map none] 34)).setCells w5.heap.size 0 (recC 0 none 0 0 ⟨#[]⟩).toArray.toList).cell? ⟨w5.heap.size, 1, none⟩ = some (.slice none 0 0) := World.rangeAt_setCells_same _ _ _ _ HT.out 1 _ rfl
                  have hbV := below_setCells (cs := (recC 0 none 0 0 ⟨#[]⟩).toArray.toList) ((hbo.trans (hb5.mono hbo.size)).alloc (Nat.le_trans hbo.size hb5.size) (.cells #[.int .i64 0, .slice none 0 0, .string ⟨#[]⟩, .map none] 34)) (b := w5.heap.size) (Nat.le_trans hbo.size hb5.size) 0
                  clear hb5 hla0
                  have tok1 : True := trivial
                  go_wp2_with (have _t := tok1; refine wpList_store_mid (by rfl) 34 (.tmp 17) (.tmp 122) (by rfl) w5.heap.size 0 (recC 0 none 0 0 ⟨#[]⟩).toArray (by rfl) (by rfl) HT.out size34 (recC_one _ _ _ _ _) ?_; clear tok1 HT; generalize ((w5.alloc (.cells #[.int .i64 0, .slice none 0 0, .string ⟨#[]⟩, .map none] 34)).setCells w5.heap.size 0 (recC 0 none 0 0 ⟨#[]⟩).toArray.toList) = wV at *)
                  go_ret
                  exact ⟨rfl, hbV⟩
                · obtain rfl : N = n := HN1.out hn0
                  obtain ⟨ro, rc, hlaN⟩ := hinvL.larg hL hf hv
                  have hz1 : ((N : Int) == 0) = false := by rw [beq_eq_false_iff_ne]; omega
                  have hheld : SlOf wr (some ⟨wo.heap.size, 0, none⟩) la (fun j => .bool (hh lh H0 j)) := hlaN.held
                  generalize hHh : hh lh H0 = Hh at *
                  obtain ⟨I, hI⟩ : ∃ I : Nat → Nat, I = fun i => inTo 6 (L i) (Z i) la Y Hh := ⟨_, rfl⟩
                  obtain ⟨O, hO⟩ : ∃ O : Nat → Nat, O = fun i => outTo 6 (L i) (Z i) la Y Hh := ⟨_, rfl⟩
                  obtain ⟨b, hb⟩ : ∃ b, b = bst I O N := ⟨_, rfl⟩
                  have hbN : b < N := by rw [hb]; exact bst_lt I O N (by omega)
                  have hlike := likeliest_any wr wc.heap.size N _ _ _ _ _ Z _ la la Y _ la Hh hlaN (by omega) (by omega) hla b (by rw [hb, hI, hO])
                  have hids : IdsOf wr (ro b) (L b) (fun j => codeN (Z b j)) := hlaN.rows b hbN
                  generalize ro b = rb at hlike hids
                  generalize rc b = rcb at hlike
                  have HIJ : Hid (I = (fun i => inTo 6 (L i) (Z i) la Y Hh) ∧ O = fun i => outTo 6 (L i) (Z i) la Y Hh) := show _ ∧ _ from ⟨hI, hO⟩
                  have HB : Hid (b = bst I O N) := hb
                  have HIDS : Hid (IdsOf wr rb (L b) (fun j => codeN (Z b j))) := hids
                  have HHELD : Hid (SlOf wr (some ⟨wo.heap.size, 0, none⟩) la (fun j => .bool (Hh j))) := hheld
                  have HLIKE := (show Hid (Calls Yba.prog 6 #[.slice (some ⟨wc.heap.size, 0, none⟩) N N, .slice (some ⟨w1.heap.size, 0, none⟩) la la, .slice (some ⟨wo.heap.size, 0, none⟩) la la] wr fun e w' => e = .returned (.agg (recC (b : Int) rb (L b) rcb nn).toArray) ∧ Below wr.heap.size wr w') from hlike)
                  clear hn0 hinvL HinvO HN0 HN1 hf hv hlaN hI hO hb hids hheld hlike hHh
                  go_wp2_with fail
                  refine HLIKE.out.mono ?_
                  rintro e w5 ⟨rfl, hb5⟩
                  clear HLIKE
                  have HT : Hid ((w5.alloc (.cells #[.int .i64 0, .slice none 0 0, .string ⟨#[]⟩, .map none] 34)).there w5.heap.size 0 (recC (b : Int) rb (L b) rcb nn).toArray.size) := there_new w5 [.int .i64 0, .slice none 0 0, .string ⟨#[]⟩, .map none] 34 4 rfl
                  have hr0 : ((w5.alloc (.cells #[.int .i64 0, .slice none 0 0, .string ⟨#[]⟩, .map none] 34)).setCells w5.heap.size 0 (recC (b : Int) rb (L b) rcb nn).toArray.toList).rangeAt w5.heap.size 0 (recC (b : Int) rb (L b) rcb nn) := World.rangeAt_setCells_same _ _ _ _ HT.out
                  have hbW : Below wr.heap.size wr ((w5.alloc (.cells #[.int .i64 0, .slice none 0 0, .string ⟨#[]⟩, .map none] 34)).setCells w5.heap.size 0 (recC (b : Int) rb (L b) rcb nn).toArray.toList) := below_setCells (cs := (recC (b : Int) rb (L b) rcb nn).toArray.toList) (hb5.alloc hb5.size (.cells #[.int .i64 0, .slice none 0 0, .string ⟨#[]⟩, .map none] 34)) (b := w5.heap.size) hb5.size 0
                  have HR0 := (show Hid (((w5.alloc (.cells #[.int .i64 0, .slice none 0 0, .string ⟨#[]⟩, .map none] 34)).setCells w5.heap.size 0 (recC (b : Int) rb (L b) rcb nn).toArray.toList).rangeAt w5.heap.size 0 (recC (b : Int) rb (L b) rcb nn)) from hr0)
                  have HBW := (show Hid (Below wr.heap.size wr ((w5.alloc (.cells #[.int .i64 0, .slice none 0 0, .string ⟨#[]⟩, .map none] 34)).setCells w5.heap.size 0 (recC (b : Int) rb (L b) rcb nn).toArray.toList)) from hbW)
                  have hV5 := hb5.size
                  clear hr0 hbW hb5
                  have tok1 : True := trivial
                  go_upto_if 125 with (have _t := tok1; refine wpList_store_mid (by rfl) 34 (.tmp 17) (.tmp 122) (by rfl) w5.heap.size 0 (recC (b : Int) rb (L b) rcb nn).toArray (by rfl) (by rfl) HT.out size34 (recC_one _ _ _ _ _) ?_; clear tok1 HT; generalize ((w5.alloc (.cells #[.int .i64 0, .slice none 0 0, .string ⟨#[]⟩, .map none] 34)).setCells w5.heap.size 0 (recC (b : Int) rb (L b) rcb nn).toArray.toList) = wV at *)
                  generalize w5.heap.size = V at *
                  have hbV : Below wc.heap.size wc wV := hbo.trans (HBW.out.mono hbo.size)
                  have hVlt : V < wV.heap.size := World.block_lt_of_cell? wV ⟨V, 0 + 0, none⟩ (HR0.out 0 _ rfl)
                  have HHELD2 : Hid (SlOf wV (some ⟨wo.heap.size, 0, none⟩) la (fun j => .bool (Hh j))) := HHELD.out.below HBW.out rfl
                  have HIDS2 : Hid (IdsOf wV rb (L b) (fun j => codeN (Z b j))) := HIDS.out.below HBW.out rfl
                  have HAV : Hid (∀ w', Below wV.heap.size wV w' → AArg w' a0 N A L C Z aa la Y ha lh H0) := fun w' hw' => HA.out.below (hbV.trans (hw'.mono hbV.size))
                  clear HHELD HIDS HA HBW hbo hSo hS hSlt hS1 hlt1 hb1
                  obtain ⟨hb, ho, rfl, hrow00⟩ := (HAV.out wV (Below.refl _ _)).row 0 (by omega)
                  have hrow0 : wV.cell? ⟨hb, ho, none⟩ = some (.slice (A 0) (L 0) (C 0)) := hrow00
                  clear hrow00
                  have hcnt := (show Hid (∀ w' i, i < N → Below wV.heap.size wV w' → Calls Yba.prog 7 #[.slice (A i) (L i) (C i), .slice aa la ac, .slice (some ⟨wo.heap.size, 0, none⟩) la la] w' fun e w'' => e = .returned (.tuple #[.int .i64 (I i), .int .i64 (O i)]) ∧ Below w'.heap.size w' w'') from fun w' i hi hw' => by
                    rw [HIJ.out.1, HIJ.out.2]
                    have hAr := HAV.out w' hw'
                    exact count_any w' (A i) (L i) (C i) (Z i) aa la ac Y _ la Hh (hAr.el i hi) hAr.ids (HHELD2.out.below hw' rfl) (hAr.rng i) hAr.irng (hL i hi) hla)
                  go_wp2_with fail
                  refine (hcnt.out wV 0 (by omega) (Below.refl _ _)).mono ?_
                  rintro e w6 ⟨rfl, hb6⟩
                  clear hrow0
                  have hIO : Hid (∀ i, I i ≤ 6 ∧ O i ≤ 6) := fun i => by
                    rw [HIJ.out.1, HIJ.out.2]
                    exact ⟨filt_le 6 _, filt_le 6 _⟩
                  go_wp2_with fail
                  go_loopw [18, 19, 20, 21] (fun c mo fe i w2 => ∃ k : Nat, 1 ≤ k ∧ k ≤ N ∧ i = .int .i64 k ∧ c = .int .i64 (bst I O k) ∧ mo = .int .i64 (mst I O k) ∧ fe = .int .i64 (few I O k) ∧ Below wV.heap.size wV w2) (fun _ _ _ i _ => N - (intOf i).toNat)
                  case atStart => exact ⟨1, Nat.le_refl _, by omega, rfl, by rw [bst_one]; rfl, by rw [mst, bst_one], by rw [few, bst_one], hb6⟩
                  case round =>
                    obtain ⟨k, hk1, hk, rfl, rfl, rfl, rfl, hbel2⟩ := hrel
                    by_cases hlt : k < N
                    · obtain ⟨hb', ho', he, hrow0⟩ := (HAV.out wr (by exact hbel2)).row k hlt
                      obtain ⟨rfl, rfl⟩ : hb = hb' ∧ ho = ho' := by injection he with he; injection he with h1 h2; exact ⟨h1, h2⟩
                      have hrow : wr.cell? ⟨hb, ho + k, none⟩ = some (.slice (A k) (L k) (C k)) := hrow0
                      clear hrow0 he
                      go_wp2_with fail
                      refine (hcnt.out _ k hlt hbel2).mono ?_
                      rintro e w7 ⟨rfl, hb7⟩
                      have hbel7 : Below wV.heap.size wV w7 := hbel2.trans (hb7.mono hbel2.size)
                      clear hrow
                      by_cases h1 : mst I O k < (I k : Int)
                      · have HY : Hid (bst I O (k + 1) = k) := sel_yes (.inl h1)
                        go_wp2_with fail
                        go_roundw
                        case rel => exact ⟨k + 1, by omega, by omega, by go_num, by rw [HY.out], by rw [mst, HY.out], by rw [few, HY.out], hbel7⟩
                        case measure => simp [intOf]; omega
                      · by_cases h2 : (I k : Int) = mst I O k
                        · have hb2 : ((I k : Int) == mst I O k) = true := beq_iff_eq.2 h2
                          by_cases h3 : (O k : Int) < few I O k
                          · have HY : Hid (bst I O (k + 1) = k) := sel_yes (.inr ⟨h2, h3⟩)
                            clear h2
                            go_wp2_with fail
                            go_roundw
                            case rel => exact ⟨k + 1, by omega, by omega, by go_num, by rw [HY.out], by rw [mst, HY.out], by rw [few, HY.out], hbel7⟩
                            case measure => simp [intOf]; omega
                          · have HY := (show Hid (bst I O (k + 1) = bst I O k ∧ mst I O (k + 1) = mst I O k ∧ few I O (k + 1) = few I O k) from sel_no (fun h => by rcases h with h | h; exact h1 h; exact h3 h.2))
                            clear h2
                            go_wp2_with fail
                            go_roundw
                            case rel => exact ⟨k + 1, by omega, by omega, by go_num, by rw [HY.out.1], by rw [HY.out.2.1], by rw [HY.out.2.2], hbel7⟩
                            case measure => simp [intOf]; omega
                        · have hb2 : ((I k : Int) == mst I O k) = false := beq_eq_false_iff_ne.2 h2
                          have HY := (show Hid (bst I O (k + 1) = bst I O k ∧ mst I O (k + 1) = mst I O k ∧ few I O (k + 1) = few I O k) from sel_no (fun h => by rcases h with h | h; exact h1 h; exact h2 h.1))
                          go_wp2_with fail
                          go_roundw
                          case rel => exact ⟨k + 1, by omega, by omega, by go_num, by rw [HY.out.1], by rw [HY.out.2.1], by rw [HY.out.2.2], hbel7⟩
                          case measure => simp [intOf]; omega
                    · obtain rfl : N = k := by omega
                      have hbE : bst I O N = b := HB.out.symm
                      rw [hbE]
                      clear hbE
                      have hrV : wr.rangeAt V 0 (recC (b : Int) rb (L b) rcb nn) := rangeAt_any_below HR0.out hbel2 rfl
                      have hc0 : wr.cell? ⟨V, 0, none⟩ = some (.int .i64 (b : Int)) := hrV 0 _ rfl
                      have hc1 : wr.cell? ⟨V, 1, none⟩ = some (.slice rb (L b) rcb) := hrV 1 _ rfl
                      have hc2 : wr.cell? ⟨V, 2, none⟩ = some (.string ⟨#[110]⟩) := hrV 2 _ rfl
                      obtain ⟨hb', ho', he, hrow0⟩ := (HAV.out wr (by exact hbel2)).row b hbN
                      obtain ⟨rfl, rfl⟩ : hb = hb' ∧ ho = ho' := by injection he with he; injection he with h1 h2; exact ⟨h1, h2⟩
                      have hrow : wr.cell? ⟨hb, ho + b, none⟩ = some (.slice (A b) (L b) (C b)) := hrow0
                      have hel := (HAV.out wr (by exact hbel2)).el b hbN
                      have hrng := (HAV.out wr (by exact hbel2)).rng b
                      have hids := HIDS2.out.below hbel2 rfl
                      have hLb := hL b hbN
                      have hbelF := hbV.trans (hbel2.mono hbV.size)
                      generalize A b = Ab at hrow hel
                      have HEL : Hid (SlOf wr Ab (L b) (fun j => .int .u8 (Z b j))) := hel
                      have HIDS3 : Hid (IdsOf wr rb (L b) (fun j => codeN (Z b j))) := hids
                      clear hrow0 he hrV hel hids HIDS2 hIO HIJ HB hcnt HHELD2 HAV HR0 hb6 hbV hL
                      generalize L b = Lb at *
                      generalize C b = Cb at *
                      generalize Z b = Zb at *
                      go_upto_region 41 with fail
                      go_quiet (fail)
                      obtain ⟨wq, rfl⟩ : ∃ wq : World, wq = wr := ⟨_, rfl⟩
                      have hVq : V < wq.heap.size := World.block_lt_of_cell? wq ⟨V, 1, none⟩ hc1
                      go_wp2_with fail
                      go_loopw [24] (fun i w2 => ∃ q : Nat, q ≤ Lb ∧ i = .int .i64 q ∧ Below wq.heap.size wq w2) (fun i _ => Lb - (intOf i).toNat)
                      case atStart => exact ⟨0, Nat.zero_le _, rfl, (Below.refl _ _).trans ⟨rfl, rfl, rfl, Nat.le_refl _, fun _ _ => rfl⟩⟩
                      case round =>
                        obtain ⟨q, hq, rfl, hbel3⟩ := hrel
                        have hrow3 := (hbel3.cell (p := ⟨hb, ho + b, none⟩) (World.block_lt_of_cell? _ _ hrow)).trans hrow
                        have hc3 := (hbel3.cell (p := ⟨V, 1, none⟩) hVq).trans hc1
                        by_cases hqlt : q < Lb
                        · obtain ⟨b1, o1, rfl, hcel0⟩ := HEL.out q hqlt
                          obtain ⟨bd, rfl, hr0⟩ := HIDS3.out q hqlt
                          have hcel3 : wr.cell? ⟨b1, o1 + q, none⟩ = some (.int .u8 (Zb q)) := (hbel3.cell (p := ⟨b1, o1 + q, none⟩) (World.block_lt_of_cell? _ _ hcel0)).trans hcel0
                          have hr3 : wr.rangeAt bd (q * 32) (idC (codeN (Zb q))) := rangeAt_any_below hr0 hbel3 rfl
                          have hz := hrng q
                          have hcd : ((codeN (Zb q) : Nat) : Int) = (Zb q).tmod 6 := by rw [Int.tmod_eq_emod_of_nonneg hz.1]; unfold codeN; omega
                          have HC := (show Hid (∀ w', Calls Yba.prog 5 #[.int .u8 ((Zb q).tmod 6)] w' fun e w'' => e = .returned (.agg (idC (codeN (Zb q))).toArray) ∧ Below w'.heap.size w' w'') from fun w' => by rw [← hcd]; exact aid_any _ (codeN_lt _) w')
                          have heq := eq_id (codeN (Zb q)) (codeN_lt _)
                          have heg := eqg28
                          have hu28 := Yba.underlying28
                          have hi28 := size28'' (codeN (Zb q))
                          have hl28 := idC_length (codeN (Zb q))
                          have ho28 := idC_one (codeN (Zb q))
                          clear hcd hcel0 hr0 hc0 hc1 hc2 hrow
                          generalize idC (codeN (Zb q)) = X at *
                          go_upto_region 46 with fail
                          go_region_held3 (fun w' => w'.cell? ⟨V, 1, none⟩ = some (.slice (some ⟨bd, 0, none⟩) Lb rcb) ∧ w'.rangeAt bd (q * 32) X ∧ w'.cell? ⟨hb, ho + b, none⟩ = some (.slice (some ⟨b1, o1, none⟩) Lb Cb) ∧ w'.cell? ⟨b1, o1 + q, none⟩ = some (.int .u8 (Zb q)))
                            (first | exact ⟨hc3, hr3, hrow3, hcel3⟩ | exact ⟨hc9, hr9, hrow9, hcel9⟩)
                            (first | (refine (HC.out _).mono ?_; rintro e w9 ⟨rfl, hb9⟩; have hb9' : Below wr.heap.size wr w9 := (Below.refl _ _).drew.trans hb9; clear hb9; have hc9 := (hb9'.cell (p := ⟨V, 1, none⟩) (World.block_lt_of_cell? _ _ hc3)).trans hc3; have hr9 : w9.rangeAt bd (q * 32) X := rangeAt_any_below hr3 hb9' rfl; have hrow9 := (hb9'.cell (p := ⟨hb, ho + b, none⟩) (World.block_lt_of_cell? _ _ hrow3)).trans hrow3; have hcel9 := (hb9'.cell (p := ⟨b1, o1 + q, none⟩) (World.block_lt_of_cell? _ _ hcel3)).trans hcel3))
                          have hbelR : Below wq.heap.size wq w9 := hbel3.trans (hb9'.mono hbel3.size)
                          go_wp2_with fail
                          go_roundw
                          case rel => exact ⟨q + 1, by omega, by go_num, hbelR⟩
                          case measure => simp [intOf]; omega
                        · obtain rfl : Lb = q := by omega
                          go_wp2_with fail
                          go_ret
                          exact ⟨rfl, hbelF.trans (hbel3.mono hbelF.size)⟩
end Go.Proofs.Ybulkcetq
