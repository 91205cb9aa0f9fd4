/-
  DERIVED. chunk.LawS4046CModel: THE WALK.
-/
import Derived.Test.YbulkcetqProg
import Derived.Test.YbulkcetqCMaps
import Derived.Test.YbulkcetqCWalks
import Derived.Test.YbulkcetqCInv
import Derived.WalkKit
import Derived.WalkSpells
import Derived.WalkLawsBesides
import Derived.Deep.DeepCutAuto
import Derived.Deep.CutBlock
namespace Go.Proofs.Ybulkcetq
open Go.RowKit

/-- What the arguments 'hold' and 'asked' are in memory. -/
structure CArg (w : World) (hb ho n : Nat) (A : Nat → Option Addr) (L C : Nat → Nat) (Z : Nat → Nat → Int) (aa : Option Addr) (la : Nat) (Y : Nat → Int) : Prop where
  row : ∀ i, i < n → w.cell? ⟨hb, ho + i, none⟩ = some (.slice (A i) (L i) (C i))
  bare : ∀ i, i < n → A i = none → L i = 0
  el : ∀ i, i < n → ∀ j, j < L i → ∃ b o, A i = some ⟨b, o, none⟩ ∧ w.cell? ⟨b, o + j, none⟩ = some (.int .u8 (Z i j))
  rng : ∀ i j, 0 ≤ Z i j ∧ Z i j ≤ 255
  ask : ∀ i, i < la → ∃ b o, aa = some ⟨b, o, none⟩ ∧ w.cell? ⟨b, o + i, none⟩ = some (.int .u8 (Y i))
  arng : ∀ i, 0 ≤ Y i ∧ Y i ≤ 255

theorem info42 : (Yba.prog.info? 42).map (fun i => (i.zero, i.size, i.bytes)) = some (some (.slice none 0 0), 1, 24) := by kernel_rfl
theorem info48 : (Yba.prog.info? 48).map (fun i => (i.zero, i.size, i.bytes)) = some (some (.agg #[.map none, .int .i64 0, .bool false, .nilIface]), 4, 40) := by kernel_rfl
theorem info9 : (Yba.prog.info? 9).map (fun i => (i.zero, i.size, i.bytes)) = some (some (.string ⟨#[]⟩), 1, 16) := by kernel_rfl

/-- The asked byte of chunk i. -/
def mm (la : Nat) (Y : Nat → Int) (i : Nat) : Int := if i < la then Y i else 0

set_option maxRecDepth 100000 in
set_option maxHeartbeats 1000000 in
theorem cmodel_main (w : World) (hb ho n hc : Nat) (A : Nat → Option Addr) (L C : Nat → Nat) (Z : Nat → Nat → Int) (aa : Option Addr) (la ac : Nat) (Y : Nat → Int) (fl : Int) (sel : Int) (c : Nat) (hce : sel % (n : Int) = (c : Int)) (hcn : c < n)
    (hA : CArg w hb ho n A L C Z aa la Y) (hn1 : 1 ≤ n) (hn2 : n ≤ 1024) (hla : la ≤ 1024) (hL : ∀ i, i < n → L i ≤ 1024) (hf0 : 0 ≤ fl) (hf1 : fl ≤ 255) (hs0 : 0 ≤ sel) (hs1 : sel ≤ 18446744073709551615) :
    Calls Yba.prog 4 #[.slice (some ⟨hb, ho, none⟩) n hc, .slice aa la ac, .int .u8 fl, .int .u64 sel] w fun e w' => e = .returned (.bool true) ∧ Below w.heap.size w w' := by
  have hz1 : ((n : Int) == 0) = false := by rw [beq_eq_false_iff_ne]; omega
  obtain ⟨i42, h42, z42, s42, b42⟩ := info_parts info42
  obtain ⟨i48, h48, z48, s48, b48⟩ := info_parts info48
  have HI : Hid (Yba.prog.info? 42 = some i42 ∧ i42.zero = some (.slice none 0 0) ∧ i42.size = 1 ∧ i42.bytes = 24) := show _ ∧ _ from ⟨h42, z42, s42, b42⟩
  have HI2 : Hid (Yba.prog.info? 48 = some i48 ∧ i48.zero = some (.agg #[.map none, .int .i64 0, .bool false, .nilIface]) ∧ i48.size = 4 ∧ i48.bytes = 40) := show _ ∧ _ from ⟨h48, z48, s48, b48⟩
  obtain ⟨i9, h9, z9, s9, b9⟩ := info_parts info9
  have HI3 : Hid (Yba.prog.info? 9 = some i9 ∧ i9.zero = some (.string ⟨#[]⟩) ∧ i9.size = 1 ∧ i9.bytes = 16) := show _ ∧ _ from ⟨h9, z9, s9, b9⟩
  clear h9 z9 s9 b9
  clear h42 z42 s42 b42 h48 z48 s48 b48
  have hmm := @run_makeMap Yba.prog
  go_enter Yba.func4, Yba.ntmps4
  go_wp2
  go_loop [9] (fun i => ∃ k : Nat, k ≤ n ∧ i = .int .i64 k) (fun i => n - (intOf i).toNat)
  case atStart => exact ⟨0, Nat.zero_le _, rfl⟩
  case round =>
    obtain ⟨k, hk, rfl⟩ := hrel
    by_cases hlt : k < n
    · have hrow := hA.row k hlt
      have hl := hL k hlt
      go_wp2
      go_round
      case rel => exact ⟨k + 1, by omega, by go_num⟩
      case measure => simp [intOf]; omega
    · obtain rfl : n = k := by omega
      go_wp2_with (first
        | (at_make; refine wpList_make_full _ rfl (.tmp 61) (.tmp 61) 40 rfl w.heap.size 42 i42 (.slice none 0 0) 1 Yba.underlying40 HI.out.1 HI.out.2.1 HI.out.2.2.1 .i64 .i64 n n n rfl rfl rfl rfl (by rw [HI.out.2.2.2]; omega) (by unfold maxLen; omega) (Nat.le_refl _) ?_; intro w1 hown1 hgrow1)
        | (at_make; refine wpList_make_full _ rfl (.tmp 63) (.tmp 63) 41 rfl w1.heap.size 48 i48 (.agg #[.map none, .int .i64 0, .bool false, .nilIface]) 4 Yba.underlying41 HI2.out.1 HI2.out.2.1 HI2.out.2.2.1 .i64 .i64 n n n rfl rfl rfl rfl (by rw [HI2.out.2.2.2]; omega) (by unfold maxLen; omega) (Nat.le_refl _) ?_; intro w2 hown2 hgrow2))
      have h0 : CInv w w2 w.heap.size w1.heap.size n c (L c) (Z c) (cntTo (mm la Y c) 4) (bfTo (mm la Y c) 4) 0 0 := CInv.start hown1 hgrow1 hown2 hgrow2
      generalize w1.heap.size = B1 at *
      clear hown1 hgrow1 hown2 hgrow2
      go_loopw [13] (fun i wr => ∃ k : Nat, k ≤ n ∧ i = .int .i64 k ∧ CInv w wr w.heap.size B1 n c (L c) (Z c) (cntTo (mm la Y c) 4) (bfTo (mm la Y c) 4) k k) (fun i _ => n - (intOf i).toNat)
      case atStart => exact ⟨0, Nat.zero_le _, rfl, h0⟩
      case round =>
        clear h0
        obtain ⟨k, hk, rfl, hinv⟩ := hrel
        obtain ⟨wo, rfl⟩ : ∃ wo : World, wo = wr := ⟨_, rfl⟩
        by_cases hlt : k < n
        · have hrow := (hinv.bel.cell (p := ⟨hb, ho + k, none⟩) (World.block_lt_of_cell? _ _ (hA.row k hlt))).trans (hA.row k hlt)
          have hl := hL k hlt
          go_upto_if 74 with fail
          go_cut [14] from 70 to 80 (fun v wx => wx.ownsRow wo.heap.size 9 1 v 0 [] ∧ Below wo.heap.size wo wx)
          case first =>
            cases hAk : A k with
            | none =>
              rw [hAk] at hrow
              clear hAk
              go_wp2_with fail
              go_meet
              case rel => exact ⟨World.ownsRow_nil _ _ _ _, Below.refl _ _⟩
            | some a =>
              rw [hAk] at hrow
              clear hAk
              go_wp2_with (at_make; refine wpList_make_own _ rfl (.const (.int .i64 0)) (.tmp 79) 42 rfl wo.heap.size 9 i9 (.string ⟨#[]⟩) 1 Yba.underlying42 HI3.out.1 HI3.out.2.1 HI3.out.2.2.1 .i64 .i64 (L k) (L k) rfl rfl rfl (by rw [HI3.out.2.2.2]; omega) (by unfold maxLen; omega) (Nat.le_refl _) ?_; intro w3 hown3 hgrow3)
              go_meet
              case rel => exact ⟨hown3, (Below.refl _ _).grown hgrow3 (Nat.le_refl _) (fun _ h => by cases h)⟩
          case rest =>
            obtain ⟨hown0, hbel0⟩ := hcut
            have hrow' := (hbel0.cell (p := ⟨hb, ho + k, none⟩) (World.block_lt_of_cell? _ _ hrow)).trans hrow
            have hS : w.heap.size ≤ wo.heap.size := hinv.bel.size
            clear hrow
            go_upto_block 4 with fail
            go_cut [14] from 81 to 97 (fun v wx => wx.ownsRow wo.heap.size 9 1 v (L k) ((List.range (L k)).map fun t => .string (nm (xx (Z k t)))) ∧ Below wo.heap.size wo wx)
            case first =>
              by_cases hL0 : L k = 0
              · have HL : Hid (L k = 0) := hL0
                have hl0 : L k ≤ 0 := by omega
                clear hL0
                go_wp2_with fail
                refine wp_loop_rounds 1 ?_
                rw [rounds_succ]
                go_wp2_with fail
                go_meet
                case rel =>
                  rw [HL.out]
                  exact ⟨hown0, hbel0⟩
              · obtain ⟨b, o, hAk, _⟩ := hA.el k hlt 0 (by omega)
                rw [hAk]
                have HAk : Hid (A k = some ⟨b, o, none⟩) := hAk
                clear hAk hrow'
                go_wp2_with fail
                go_loopw [14, 86] (fun v j wr => ∃ q : Nat, q ≤ L k ∧ j = .int .i64 q ∧ wr.ownsRow wo.heap.size 9 1 v q ((List.range q).map fun t => .string (nm (xx (Z k t)))) ∧ Below wo.heap.size wo wr) (fun _ j _ => L k - (intOf j).toNat)
                case atStart => exact ⟨0, Nat.zero_le _, rfl, hown0, hbel0⟩
                case round =>
                  clear hown0 hbel0
                  obtain ⟨q, hq, rfl, hown, hbel⟩ := hrel
                  by_cases hqlt : q < L k
                  · obtain ⟨b', o', hAk, hcel⟩ := hA.el k hlt q hqlt
                    rw [HAk.out] at hAk
                    injection hAk with hAk
                    injection hAk with e1 e2
                    subst e1 e2
                    have hz := hA.rng k q
                    have hcel' := ((hinv.bel.trans (hbel.mono hS)).cell (p := ⟨b, o + q, none⟩) (World.block_lt_of_cell? _ _ hcel)).trans hcel
                    clear hcel
                    go_wp2_with fail
                    refine (name_any (Z k q % 4) _ (by omega) (by omega)).mono ?_
                    rintro e wn ⟨rfl, rfl⟩
                    go_wp2_with (at_builtin; refine wpList_append_own _ rfl (.tmp 90) (.tmp 95) 42 rfl wo.heap.size 9 i9 (.string ⟨#[]⟩) 1 16 Yba.underlying42 HI3.out.1 HI3.out.2.1 HI3.out.2.2.1 HI3.out.2.2.2 rfl (by decide) _ _ _ rfl (hown.alloc _) ⟨wn.heap.size, 0, none⟩ 1 1 [.string (nm (xx (Z k q)))] rfl rfl ?c1 ?c2 ?c3 ?c4 ?c5 ?_)
                    case c1 => exact cell_one_new _ _ _
                    case c2 => intro u hu; simp at hu; subst hu; rfl
                    case c3 => unfold maxLen; omega
                    case c4 => omega
                    case c5 => have := hbel.size; simp; omega
                    intro v' w4 hown4 hgrow4 _
                    have hbel4 : Below wo.heap.size wo w4 := (hbel.alloc hbel.size _).grown hgrow4 (by have := hbel.size; simp; omega) (fun r hr => (hown.lt r hr).1)
                    have hown5 : w4.ownsRow wo.heap.size 9 1 v' (q + 1) ((List.range (q + 1)).map fun t => .string (nm (xx (Z k t)))) := by
                      rw [List.range_succ, List.map_append]
                      exact hown4
                    clear hown4 hgrow4 hown hbel
                    go_wp2
                    go_roundw
                    case rel => exact ⟨q + 1, by omega, by go_num, hown5, hbel4⟩
                    case measure => simp [intOf]; omega
                  · obtain rfl : q = L k := by omega
                    go_wp2_with fail
                    go_meet
                    case rel => exact ⟨hown, hbel⟩
            case rest =>
              clear hown0 hbel0 hrow'
              obtain ⟨hown, hbel⟩ := hcut
              have hrok := RowOk.own hown hinv.lt1
              have hinv1 := hinv.below hbel
              obtain ⟨x0, hx0⟩ := hinv1.hc k hlt
              have hx1 := hinv1.hf k
              obtain ⟨ro, rc, hv, _⟩ := id hrok
              subst hv
              clear hown hbel
              go_upto_if 105 with fail
              have hinv2 := hinv1.putRow hlt (.slice ro (L k) rc) (fun e => by subst e; exact hrok)
              clear hrok hinv1 hx0 hx1 hinv
              generalize (wc.setCell ⟨w.heap.size, k, none⟩ (.slice ro (L k) rc)) = ws at *
              go_cut [17] from 102 to 109 (fun v wx => v = .int .u8 (mm la Y k) ∧ wx = ws)
              case first =>
                by_cases hka : k < la
                · obtain ⟨b, o, rfl, hcel⟩ := hA.ask k hka
                  have hcel' := (hinv2.bel.cell (p := ⟨b, o + k, none⟩) (World.block_lt_of_cell? _ _ hcel)).trans hcel
                  clear hcel
                  go_wp2_with fail
                  go_meet
                  case rel => exact ⟨by simp [mm, hka], rfl⟩
                · go_wp2_with fail
                  go_meet
                  case rel => exact ⟨by simp [mm, hka], rfl⟩
              case rest =>
                obtain ⟨rfl, rfl⟩ := hcut
                have hm : 0 ≤ mm la Y k ∧ mm la Y k ≤ 255 := by
                  unfold mm
                  split
                  · exact hA.arng k
                  · omega
                have hS2 : B1 < wc.heap.size := hinv2.lt1
                go_wp2_with fail
                go_loopw [19] (fun i wr => ∃ q : Nat, q ≤ 4 ∧ i = .int .i64 q ∧ BoolAt wr wc.heap.size (cntTo (mm la Y k) q) (bfTo (mm la Y k) q) ∧ Below wc.heap.size wc wr) (fun i _ => 4 - (intOf i).toNat)
                case atStart => exact ⟨0, by omega, rfl, BoolAt.made wc _, (Below.refl _ _).alloc (Nat.le_refl _) _⟩
                case round =>
                  obtain ⟨q, hq, rfl, hmap, hbel⟩ := hrel
                  by_cases hq4 : q < 4
                  · have hqc : q = 0 ∨ q = 1 ∨ q = 2 ∨ q = 3 := by omega
                    have hbit := bit_one (mm la Y k) q hq4 hm.1 hm.2
                    cases hb : bf (mm la Y k) q
                    · have hmap' := hmap.skip hb
                      rw [hb] at hbit
                      clear hmap hb
                      rcases hqc with rfl | rfl | rfl | rfl
                      all_goals
                        first | rw [sh0] at hbit | rw [sh1] at hbit | rw [sh2] at hbit | rw [sh3] at hbit
                        go_wp2_with fail
                        go_roundw
                        case rel => exact ⟨_, by decide, rfl, hmap', hbel⟩
                        case measure => simp [intOf]
                    · obtain ⟨w5, hrun5, hmap5, hgrow5⟩ := hmap.put hq4 hb
                      have hbel5 : Below wc.heap.size wc w5 := hbel.grown hgrow5 hbel.size (fun j hj => by cases hj; exact Nat.le_refl _)
                      have HN : Hid (Calls Yba.prog 8 #[.int .i64 (q : Int)] wr fun e w' => e = .returned (.string (nm q)) ∧ w' = wr) := name_nat q hq4 wr
                      rw [hb] at hbit
                      clear hmap hb hbel
                      rcases hqc with rfl | rfl | rfl | rfl
                      all_goals
                        first | rw [sh0] at hbit | rw [sh1] at hbit | rw [sh2] at hbit | rw [sh3] at hbit
                        go_wp2_with fail
                        refine HN.out.mono ?_
                        rintro e wn ⟨rfl, rfl⟩
                        go_wp2
                        go_roundw
                        case rel => exact ⟨_, by decide, rfl, hmap5, hbel5⟩
                        case measure => simp [intOf]
                  · obtain rfl : q = 4 := by omega
                    have hinv3 := hinv2.below hbel
                    have hask : AskOk wr B1 wc.heap.size (cntTo (mm la Y k) 4) (bfTo (mm la Y k) 4) := ⟨hS2, hmap⟩
                    obtain ⟨x0, hx0⟩ := hinv3.cc (k * 4) (by omega)
                    have hx1 := hinv3.cf (k * 4)
                    have hinv4 := hinv3.putAsk hlt wc.heap.size (fun e => by subst e; exact hask)
                    clear hask hmap hbel hinv2 hinv3
                    go_wp2
                    go_roundw
                    case rel => exact ⟨k + 1, by omega, by go_num, hinv4⟩
                    case measure => simp [intOf]; omega
        · obtain rfl : n = k := by omega
          have hSo : B1 < wo.heap.size := hinv.lt1
          go_wp2_with fail
          go_loopw [21] (fun i wr => ∃ (q : Nat) (pr : Nat → Nat), q ≤ 4 ∧ i = .int .i64 q ∧ PeerAt wr wo.heap.size q pr ∧ (∀ j, j < q → wo.heap.size < pr j ∧ wr.cell? ⟨pr j, 3, none⟩ = some (.bool (bf fl j))) ∧ Below wo.heap.size wo wr) (fun i _ => 4 - (intOf i).toNat)
          case atStart => exact ⟨0, fun _ => 0, by omega, rfl, PeerAt.made wo, fun j hj => by omega, (Below.refl _ _).alloc (Nat.le_refl _) _⟩
          case round =>
            obtain ⟨q, pr, hq, rfl, hmap, hpr, hbel⟩ := hrel
            by_cases hq4 : q < 4
            · have hqc : q = 0 ∨ q = 1 ∨ q = 2 ∨ q = 3 := by omega
              have hbit := bit_one fl q hq4 hf0 hf1
              have HN : Hid (Calls Yba.prog 8 #[.int .i64 (q : Int)] wr fun e w' => e = .returned (.string (nm q)) ∧ w' = wr) := name_nat q hq4 wr
              rcases hqc with rfl | rfl | rfl | rfl
              all_goals
                first | rw [sh0] at hbit | rw [sh1] at hbit | rw [sh2] at hbit | rw [sh3] at hbit
                go_wp2_with fail
                refine HN.out.mono ?_
                rintro e wn ⟨rfl, rfl⟩
                go_wp2_with (at_mapUpdate; refine wpList_peer_put _ rfl _ _ _ rfl (hmap.alloc _) wn.heap.size (by decide) rfl rfl rfl ?_; intro w5 hmap5 hgrow5)
                obtain ⟨hpr5, hbel5⟩ := peers_step (fl := fl) (by simp) hmap hpr hbel rfl hgrow5
                clear hmap hpr hbel hgrow5
                go_wp2
                go_roundw
                case rel => exact ⟨_, _, by decide, rfl, hmap5, hpr5, hbel5⟩
                case measure => simp [intOf]
            · obtain rfl : q = 4 := by omega
              go_wp2_with fail
              have hbelp := hbel.alloc hbel.size (.cells #[.pointer none, .slice none 0 0, .slice (some ⟨w.heap.size, 0, none⟩) n n, .nilFunc, .nilIface, .nilFunc, .int .i32 0, .int .u32 0, .chan none, .slice none 0 0, .slice (some ⟨B1, 0, none⟩) n n, .int .i64 0, .slice none 0 0, .map (some wo.heap.size), .int .i64 0, .nilIface] 75)
              have hinvp := hinv.below hbelp
              have hmapp := hmap.alloc (.cells #[.pointer none, .slice none 0 0, .slice (some ⟨w.heap.size, 0, none⟩) n n, .nilFunc, .nilIface, .nilFunc, .int .i32 0, .int .u32 0, .chan none, .slice none 0 0, .slice (some ⟨B1, 0, none⟩) n n, .int .i64 0, .slice none 0 0, .map (some wo.heap.size), .int .i64 0, .nilIface] 75)
              have hprp : ∀ j, j < 4 → (wr.alloc (.cells #[.pointer none, .slice none 0 0, .slice (some ⟨w.heap.size, 0, none⟩) n n, .nilFunc, .nilIface, .nilFunc, .int .i32 0, .int .u32 0, .chan none, .slice none 0 0, .slice (some ⟨B1, 0, none⟩) n n, .int .i64 0, .slice none 0 0, .map (some wo.heap.size), .int .i64 0, .nilIface] 75)).cell? ⟨pr j, 3, none⟩ = some (.bool (bf fl j)) := fun j hj => by
                obtain ⟨e1, e2⟩ := hpr j hj
                rw [World.cell?_of_block (Below.heap_alloc wr _ (pr j) (World.block_lt_of_cell? wr ⟨pr j, 3, none⟩ e2))]
                exact e2
              have hp2 : (wr.alloc (.cells #[.pointer none, .slice none 0 0, .slice (some ⟨w.heap.size, 0, none⟩) n n, .nilFunc, .nilIface, .nilFunc, .int .i32 0, .int .u32 0, .chan none, .slice none 0 0, .slice (some ⟨B1, 0, none⟩) n n, .int .i64 0, .slice none 0 0, .map (some wo.heap.size), .int .i64 0, .nilIface] 75)).cell? ⟨wr.heap.size, 2, none⟩ = some (.slice (some ⟨w.heap.size, 0, none⟩) n n) := by simp
              have hp10 : (wr.alloc (.cells #[.pointer none, .slice none 0 0, .slice (some ⟨w.heap.size, 0, none⟩) n n, .nilFunc, .nilIface, .nilFunc, .int .i32 0, .int .u32 0, .chan none, .slice none 0 0, .slice (some ⟨B1, 0, none⟩) n n, .int .i64 0, .slice none 0 0, .map (some wo.heap.size), .int .i64 0, .nilIface] 75)).cell? ⟨wr.heap.size, 10, none⟩ = some (.slice (some ⟨B1, 0, none⟩) n n) := by simp
              have hp13 : (wr.alloc (.cells #[.pointer none, .slice none 0 0, .slice (some ⟨w.heap.size, 0, none⟩) n n, .nilFunc, .nilIface, .nilFunc, .int .i32 0, .int .u32 0, .chan none, .slice none 0 0, .slice (some ⟨B1, 0, none⟩) n n, .int .i64 0, .slice none 0 0, .map (some wo.heap.size), .int .i64 0, .nilIface] 75)).cell? ⟨wr.heap.size, 13, none⟩ = some (.map (some wo.heap.size)) := by simp
              generalize (wr.alloc (.cells #[.pointer none, .slice none 0 0, .slice (some ⟨w.heap.size, 0, none⟩) n n, .nilFunc, .nilIface, .nilFunc, .int .i32 0, .int .u32 0, .chan none, .slice none 0 0, .slice (some ⟨B1, 0, none⟩) n n, .int .i64 0, .slice none 0 0, .map (some wo.heap.size), .int .i64 0, .nilIface] 75)) = wp at *
              generalize wr.heap.size = pb at *
              obtain ⟨vr, hvr, ro, rc, rfl, hnames⟩ := hinvp.row hcn
              obtain ⟨bm, hbmc, hbm1, hbm⟩ := hinvp.ask hcn
              have HA : Hid (∀ j, j < 4 → (Instr.lookup 44 (.map (some bm)) (.string (nm j)) false).run Yba.prog wp = .ok (.bool (bf (mm la Y c) j)) wp) := fun j hj => by
                have := BoolAt.look _ hbm hj
                rw [bfTo_four _ j hj] at this
                exact this
              have HP : Hid (∀ j, j < 4 → (Instr.lookup 49 (.map (some wo.heap.size)) (.string (nm j)) false).run Yba.prog wp = .ok (.pointer (some ⟨pr j, 0, none⟩)) wp) := fun j hj => hmapp.look hj hj
              have HF : Hid (∀ j, j < 4 → wp.cell? ⟨pr j, 3, none⟩ = some (.bool (bf fl j))) := hprp
              refine (viable_any pb w.heap.size B1 n c (L c) bm wo.heap.size (fun j => xx (Z c j)) (bf (mm la Y c)) (bf fl) pr ro rc wp hcn (hL c hcn) hp2 hp10 hp13 hvr hbmc (fun j _ => xx_lt _) (fun j hj => ?_) HA.out HP.out HF.out).mono ?_
              · obtain ⟨b, o, e1, _, e2⟩ := hnames j hj
                exact ⟨b, o, e1, e2⟩
              rintro e wv ⟨rfl, rfl⟩
              have hbelw : Below w.heap.size w wv := hinvp.bel
              have Hlen1 := MapAt.len hbm Yba.underlying44
              have Hlen2 := MapAt.len hmapp Yba.underlying49
              clear hprp hp2 hp10 hp13 hinvp hnames hvr hmapp hbelp hmap hpr hbel hinv
              generalize wo.heap.size = bp at *
              go_upto_if 161 with fail
              go_cut [25] from 158 to 165 (fun v wx => v = .int .u8 (mm la Y c) ∧ wx = wv)
              case first =>
                by_cases hka : c < la
                · obtain ⟨b, o, rfl, hcel⟩ := hA.ask c hka
                  have hcel' := (hbelw.cell (p := ⟨b, o + c, none⟩) (World.block_lt_of_cell? _ _ hcel)).trans hcel
                  clear hcel
                  go_wp2_with fail
                  go_meet
                  case rel => exact ⟨by simp [mm, hka], rfl⟩
                · go_wp2_with fail
                  go_meet
                  case rel => exact ⟨by simp [mm, hka], rfl⟩
              case rest =>
                obtain ⟨rfl, rfl⟩ := hcut
                have hm : 0 ≤ mm la Y c ∧ mm la Y c ≤ 255 := by
                  unfold mm
                  split
                  · exact hA.arng c
                  · omega
                have hrow := (hbelw.cell (p := ⟨hb, ho + c, none⟩) (World.block_lt_of_cell? _ _ (hA.row c hcn))).trans (hA.row c hcn)
                have hLc := hL c hcn
                generalize hmE : mm la Y c = m at *
                clear hmE
                go_upto_block 10 with fail
                go_cut [26] from 166 to 190 (fun v wx => v = .bool (viab (L c) (fun j => xx (Z c j)) (bf m) (bf fl)) ∧ wx = wc)
                case first =>
                  by_cases hL0 : L c = 0
                  · have HL : Hid (L c = 0) := hL0
                    have hl0 : L c ≤ 0 := by omega
                    clear hL0
                    go_wp2_with fail
                    refine wp_loop_rounds 1 ?_
                    rw [rounds_succ]
                    go_wp2_with fail
                    go_meet
                    case rel => exact ⟨by rw [HL.out]; rfl, rfl⟩
                  · obtain ⟨b, o, hAk, _⟩ := hA.el c hcn 0 (by omega)
                    rw [hAk]
                    have HAk : Hid (A c = some ⟨b, o, none⟩) := hAk
                    clear hAk hrow
                    go_wp2_with fail
                    go_loop [26, 171] (fun v j => ∃ q : Nat, q ≤ L c ∧ j = .int .i64 q ∧ v = .bool false ∧ Hid (viab q (fun j => xx (Z c j)) (bf m) (bf fl) = false)) (fun _ j => L c - (intOf j).toNat)
                    case atStart => exact ⟨0, Nat.zero_le _, rfl, rfl, rfl⟩
                    case round =>
                      obtain ⟨q, hq, rfl, rfl, HV⟩ := hrel
                      by_cases hqlt : q < L c
                      · obtain ⟨b', o', hAk, hcel⟩ := hA.el c hcn q hqlt
                        rw [HAk.out] at hAk
                        injection hAk with hAk
                        injection hAk with e1 e2
                        subst e1 e2
                        have hz := hA.rng c q
                        have hcel' := (hbelw.cell (p := ⟨b, o + q, none⟩) (World.block_lt_of_cell? _ _ hcel)).trans hcel
                        have hb1 := bit_zero m (xx (Z c q)) (xx_lt _) hm.1 hm.2
                        have hb2 := bit_zero fl (xx (Z c q)) (xx_lt _) hf0 hf1
                        have hstep := viab_succ q (fun j => xx (Z c j)) (bf m) (bf fl)
                        rw [HV.out, Bool.false_or] at hstep
                        have hz4 : Z c q % 4 = 0 ∨ Z c q % 4 = 1 ∨ Z c q % 4 = 2 ∨ Z c q % 4 = 3 := by omega
                        clear hcel
                        cases hbm1 : bf m (xx (Z c q))
                        · cases hbf1 : bf fl (xx (Z c q))
                          · rw [hbm1] at hb1
                            rw [hbf1] at hb2
                            simp only [hbm1, hbf1] at hstep
                            have HS : Hid (viab (L c) (fun j => xx (Z c j)) (bf m) (bf fl) = true) := viab_mono hqlt hstep
                            clear hstep hbm1 hbf1
                            rcases hz4 with h4 | h4 | h4 | h4
                            all_goals
                              first | rw [shx0 h4] at hb1 hb2 | rw [shx1 h4] at hb1 hb2 | rw [shx2 h4] at hb1 hb2 | rw [shx3 h4] at hb1 hb2
                              go_wp2_with fail
                              go_meet
                              case rel => exact ⟨by rw [HS.out], rfl⟩
                          · rw [hbm1] at hb1
                            rw [hbf1] at hb2
                            simp only [hbm1, hbf1] at hstep
                            have HS : Hid (viab (q + 1) (fun j => xx (Z c j)) (bf m) (bf fl) = false) := hstep
                            clear hstep hbm1 hbf1
                            rcases hz4 with h4 | h4 | h4 | h4
                            all_goals
                              first | rw [shx0 h4] at hb1 hb2 | rw [shx1 h4] at hb1 hb2 | rw [shx2 h4] at hb1 hb2 | rw [shx3 h4] at hb1 hb2
                              go_wp2_with fail
                              go_round
                              case rel => exact ⟨q + 1, by omega, by go_num, rfl, HS⟩
                              case measure => simp [intOf]; omega
                        · rw [hbm1] at hb1
                          simp only [hbm1] at hstep
                          have HS : Hid (viab (q + 1) (fun j => xx (Z c j)) (bf m) (bf fl) = false) := hstep
                          clear hstep hbm1 hb2
                          rcases hz4 with h4 | h4 | h4 | h4
                          all_goals
                            first | rw [shx0 h4] at hb1 | rw [shx1 h4] at hb1 | rw [shx2 h4] at hb1 | rw [shx3 h4] at hb1
                            go_wp2_with fail
                            go_round
                            case rel => exact ⟨q + 1, by omega, by go_num, rfl, HS⟩
                            case measure => simp [intOf]; omega
                      · obtain rfl : q = L c := by omega
                        go_wp2_with fail
                        go_meet
                        case rel => exact ⟨by rw [HV.out], rfl⟩
                case rest =>
                  obtain ⟨rfl, hwc⟩ := hcut
                  subst hwc
                  clear hrow
                  go_wp2_with fail
                  go_loop [30, 31] (fun t i => ∃ q : Nat, q ≤ 4 ∧ i = .int .i64 q ∧ t = .int .i64 (cntTo m q)) (fun _ i => 4 - (intOf i).toNat)
                  case atStart => exact ⟨0, by omega, rfl, rfl⟩
                  case round =>
                    obtain ⟨q, hq, rfl, rfl⟩ := hrel
                    by_cases hq4 : q < 4
                    · have hqc : q = 0 ∨ q = 1 ∨ q = 2 ∨ q = 3 := by omega
                      have hbit1 := bit_one m q hq4 hm.1 hm.2
                      have hbit2 := bit_one fl q hq4 hf0 hf1
                      have hask := HA.out q hq4
                      have hpeer := HP.out q hq4
                      have hfail := HF.out q hq4
                      have hle := cntTo_le m q
                      have hsuc := cntTo_succ m q
                      have HN : ∀ w', Hid (Calls Yba.prog 8 #[.int .i64 (q : Int)] w' fun e w'' => e = .returned (.string (nm q)) ∧ w'' = w') := fun w' => name_nat q hq4 w'
                      cases hbm1 : bf m q
                      · rw [hbm1] at hbit1 hask hsuc
                        have HS : Hid ((cntTo m q : Int) = (cntTo m (q + 1) : Int)) := by rw [hsuc]; rfl
                        clear hsuc hbm1
                        rcases hqc with rfl | rfl | rfl | rfl
                        all_goals
                          first | rw [sh0] at hbit1 hbit2 | rw [sh1] at hbit1 hbit2 | rw [sh2] at hbit1 hbit2 | rw [sh3] at hbit1 hbit2
                          go_wp2_with fail
                          refine (HN _).out.mono ?_
                          rintro e wn ⟨rfl, rfl⟩
                          go_wp2
                          go_round
                          case rel => exact ⟨_, by decide, rfl, congrArg (Value.int .i64) HS.out⟩
                          case measure => simp [intOf]
                      · rw [hbm1] at hbit1 hask hsuc
                        have HS : Hid ((cntTo m q : Int) + 1 = (cntTo m (q + 1) : Int)) := by rw [hsuc]; rfl
                        clear hsuc hbm1
                        rcases hqc with rfl | rfl | rfl | rfl
                        all_goals
                          first | rw [sh0] at hbit1 hbit2 | rw [sh1] at hbit1 hbit2 | rw [sh2] at hbit1 hbit2 | rw [sh3] at hbit1 hbit2
                          go_wp2_with fail
                          refine (HN _).out.mono ?_
                          rintro e wn ⟨rfl, rfl⟩
                          go_wp2
                          go_round
                          case rel => exact ⟨_, by decide, rfl, congrArg (Value.int .i64) HS.out⟩
                          case measure => simp [intOf]
                    · obtain rfl : q = 4 := by omega
                      go_wp2
                      go_ret
                      exact ⟨rfl, hbelw⟩
end Go.Proofs.Ybulkcetq
