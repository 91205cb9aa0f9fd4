/-
  DERIVED. protocol.LawS4047BMessage: THE LAW's WALK.
-/
import Derived.Test.YbulkceueOf
import Derived.Test.YbulkceueCall
import Derived.OwnWalk
import Derived.Deep.DeepCutAuto
import Derived.Deep.CutBlock
namespace Go.Proofs.Ybulkceue
open Go.RowKit

theorem info24 : (Yba.prog.info? 24).map (fun i => (i.zero, i.size, i.bytes)) = some (some (.slice none 0 0), 1, 24) := by kernel_rfl
theorem info_parts' {P : Program} {t : TypeId} {z : Option Value} {s b : Nat} (h : (P.info? t).map (fun i => (i.zero, i.size, i.bytes)) = some (z, s, b)) : ∃ i, P.info? t = some i ∧ i.zero = z ∧ i.size = s ∧ i.bytes = b := by
  cases e : P.info? t with
  | none => rw [e] at h; cases h
  | some i =>
    rw [e] at h
    simp only [Option.map_some, Option.some.injEq, Prod.mk.injEq] at h
    exact ⟨i, rfl, h.1, h.2.1, h.2.2⟩

/-- The log: block lb, its first q cells the pieces from base on. -/
structure LogInv (w wr : World) (ll q : Nat) (P : World → Nat → Value → Prop) : Prop where
  bel : Below w.heap.size w wr
  lt : w.heap.size < wr.heap.size
  cl : ∀ j, j < ll → ∃ v, wr.cell? ⟨w.heap.size, j, none⟩ = some v
  fr : ∀ j, wr.frozen? ⟨w.heap.size, j, none⟩ = false
  dn : ∀ j, j < q → ∃ v, wr.cell? ⟨w.heap.size, j, none⟩ = some v ∧ P wr j v

theorem LogInv.start {w w1 : World} {ll : Nat} {P : World → Nat → Value → Prop} {xs : List Value} (h : w1.ownsRow w.heap.size 24 1 (.slice (some ⟨w.heap.size, 0, none⟩) ll ll) ll xs) (hg : w.grownBy w1 none) : LogInv w w1 ll 0 P := by
  refine ⟨(Below.refl _ _).grown hg (Nat.le_refl _) (fun _ h => by cases h), (h.lt w.heap.size rfl).2, fun j hj => ?_, fun j => h.frozenAt j, fun j hj => by omega⟩
  exact ⟨_, (h.cellAt j (by omega)).trans (List.getElem?_eq_getElem (by rw [h.1]; omega))⟩

theorem LogInv.below {w wr wf : World} {ll q : Nat} {P : World → Nat → Value → Prop} (h : LogInv w wr ll q P) (hb : Below wr.heap.size wr wf) (hP : ∀ j v, P wr j v → P wf j v) : LogInv w wf ll q P := by
  refine ⟨h.bel.trans (hb.mono h.bel.size), Nat.lt_of_lt_of_le h.lt hb.size, fun j hj => ?_, fun j => (hb.frozen (p := ⟨_, j, none⟩) h.lt).trans (h.fr j), fun j hj => ?_⟩
  · obtain ⟨v, hv⟩ := h.cl j hj
    exact ⟨v, (hb.cell (p := ⟨_, j, none⟩) h.lt).trans hv⟩
  · obtain ⟨v, hv, hp⟩ := h.dn j hj
    exact ⟨v, (hb.cell (p := ⟨_, j, none⟩) h.lt).trans hv, hP j v hp⟩

theorem LogInv.put {w wr : World} {ll q : Nat} {P : World → Nat → Value → Prop} (h : LogInv w wr ll q P) (hq : q < ll) (v : Value) (hv : P (wr.setCell ⟨w.heap.size, q, none⟩ v) q v) (hP : ∀ j u, P wr j u → P (wr.setCell ⟨w.heap.size, q, none⟩ v) j u) :
    LogInv w (wr.setCell ⟨w.heap.size, q, none⟩ v) ll (q + 1) P := by
  refine ⟨h.bel.setCell (Nat.le_refl _) v, by simp; exact h.lt, fun j hj => ?_, fun j => by simpa using h.fr j, fun j hj => ?_⟩
  · by_cases e : j = q
    · subst e
      obtain ⟨u, hu⟩ := h.cl j hj
      exact ⟨v, World.cell?_setCell_same _ _ _ hu⟩
    · obtain ⟨u, hu⟩ := h.cl j hj
      exact ⟨u, by rw [far _ _ _ _ _ _ (.inr e)]; exact hu⟩
  · by_cases e : j = q
    · subst e
      obtain ⟨u, hu⟩ := h.cl j hq
      exact ⟨v, World.cell?_setCell_same _ _ _ hu, hv⟩
    · obtain ⟨u, hu, hp⟩ := h.dn j (by omega)
      exact ⟨u, by rw [far _ _ _ _ _ _ (.inr e)]; exact hu, hP j u hp⟩

/-- What the log is. -/
def LogOk (w wx : World) (v : Value) (base mx : Nat) (K : Nat → Int) (Yf : Nat → Nat) : Prop :=
  Below w.heap.size w wx ∧ (base ≤ mx → ∃ lb, v = .slice (some ⟨lb, 0, none⟩) (mx - base + 1) (mx - base + 1) ∧ ∀ j, j < mx - base + 1 → ∃ u, wx.cell? ⟨lb, j, none⟩ = some u ∧ PieceOk wx lb u (K (base + j)) (Yf (base + j))) ∧ (mx < base → v = .slice none 0 0)

theorem vs_start (wc : World) (org : Int) (ka : Option Addr) (kl kc m : Nat) : VS wc (((wc.alloc (.cells #[.slice ka kl kc, .int .u64 (m : Int), .int .i64 0, .int .i64 0, .int .u64 0] 29)).alloc (.map #[] 0)).alloc (.cells #[.int .i64 0, .iface 27 (.pointer (some ⟨wc.heap.size, 0, none⟩)), .slice none 0 0, .map none, .bool false, .int .i64 0, .int .i64 0, .bool false, .slice none 0 0, .bool false, .map (some (wc.heap.size + 1)), .int .u64 0, .int .u64 0, .int .i64 0, .bool false, .pointer none, .bool false, .bool false, .int .u64 0, .int .u8 0, .int .i64 0, .int .u64 0] 41)) org ka kl kc m 0 0 0 none := by
  have eV : ∀ i, (((wc.alloc (.cells #[.slice ka kl kc, .int .u64 (m : Int), .int .i64 0, .int .i64 0, .int .u64 0] 29)).alloc (.map #[] 0)).alloc (.cells #[.int .i64 0, .iface 27 (.pointer (some ⟨wc.heap.size, 0, none⟩)), .slice none 0 0, .map none, .bool false, .int .i64 0, .int .i64 0, .bool false, .slice none 0 0, .bool false, .map (some (wc.heap.size + 1)), .int .u64 0, .int .u64 0, .int .i64 0, .bool false, .pointer none, .bool false, .bool false, .int .u64 0, .int .u8 0, .int .i64 0, .int .u64 0] 41)).cell? ⟨wc.heap.size, i, none⟩ = (#[.slice ka kl kc, .int .u64 (m : Int), .int .i64 0, .int .i64 0, .int .u64 0] : Array Value)[i]? := fun i => by
    rw [World.cell?_alloc_lt _ _ _ (by simp; omega), World.cell?_alloc_lt _ _ _ (by simp), World.cell?_alloc_new]
  have eG : ∀ i, (((wc.alloc (.cells #[.slice ka kl kc, .int .u64 (m : Int), .int .i64 0, .int .i64 0, .int .u64 0] 29)).alloc (.map #[] 0)).alloc (.cells #[.int .i64 0, .iface 27 (.pointer (some ⟨wc.heap.size, 0, none⟩)), .slice none 0 0, .map none, .bool false, .int .i64 0, .int .i64 0, .bool false, .slice none 0 0, .bool false, .map (some (wc.heap.size + 1)), .int .u64 0, .int .u64 0, .int .i64 0, .bool false, .pointer none, .bool false, .bool false, .int .u64 0, .int .u8 0, .int .i64 0, .int .u64 0] 41)).cell? ⟨wc.heap.size + 1 + 1, i, none⟩ = (#[.int .i64 0, .iface 27 (.pointer (some ⟨wc.heap.size, 0, none⟩)), .slice none 0 0, .map none, .bool false, .int .i64 0, .int .i64 0, .bool false, .slice none 0 0, .bool false, .map (some (wc.heap.size + 1)), .int .u64 0, .int .u64 0, .int .i64 0, .bool false, .pointer none, .bool false, .bool false, .int .u64 0, .int .u8 0, .int .i64 0, .int .u64 0] : Array Value)[i]? := fun i => by
    have e : ((wc.alloc (.cells #[.slice ka kl kc, .int .u64 (m : Int), .int .i64 0, .int .i64 0, .int .u64 0] 29)).alloc (.map #[] 0)).heap.size = wc.heap.size + 1 + 1 := by simp
    rw [← e, World.cell?_alloc_new]
  refine ⟨(((Below.refl _ _).alloc (Nat.le_refl _) _).alloc (by simp) _).alloc (by simp; omega) _, by simp, eV 0, eV 1, eV 2, eV 3, eV 4, fun i => ?_, eG 1, eG 10, ?_⟩
  · rw [World.frozen?_alloc_past _ _ _ (by simp; omega), World.frozen?_alloc_past _ _ _ (by simp), World.frozen?_alloc_new]
  · have h := AsmAt.made (wc.alloc (.cells #[.slice ka kl kc, .int .u64 (m : Int), .int .i64 0, .int .i64 0, .int .u64 0] 29)) org
    have e : (wc.alloc (.cells #[.slice ka kl kc, .int .u64 (m : Int), .int .i64 0, .int .i64 0, .int .u64 0] 29)).heap.size = wc.heap.size + 1 := by simp
    rw [e] at h
    exact h.of_block (Below.heap_alloc _ _ _ (by simp))

theorem smem_start (wb wc : World) (org : Int) (f base up ab : Nat) (la : Option Addr) (ln lcp : Nat) : SMem ((wc.alloc (.cells #[.pointer (some ⟨wb.heap.size + 1 + 1, 0, none⟩), .bool false, .bool false, .bool false, .bool false, .bool false, .bool false, .slice none 0 0, .map none, .pointer none, .bool false, .slice none 0 0, .int .u64 0, .int .u64 0, .int .u64 0, .bool false, .map none, .bool false] 55)).alloc (.cells #[.int .i64 org, .int .i64 0, .bool false, .int .u64 0, .slice la ln lcp, .int .u64 (f : Int), .int .u64 (base : Int), .int .u64 (up : Int), .int .u64 (ab : Int), .int .u64 0, .int .u64 0, .int .u64 0, .int .u64 0, .slice none 0 0] 60)) wc.heap.size (wb.heap.size + 1 + 1) (wc.heap.size + 1) org f base up ab ∧ ((wc.alloc (.cells #[.pointer (some ⟨wb.heap.size + 1 + 1, 0, none⟩), .bool false, .bool false, .bool false, .bool false, .bool false, .bool false, .slice none 0 0, .map none, .pointer none, .bool false, .slice none 0 0, .int .u64 0, .int .u64 0, .int .u64 0, .bool false, .map none, .bool false] 55)).alloc (.cells #[.int .i64 org, .int .i64 0, .bool false, .int .u64 0, .slice la ln lcp, .int .u64 (f : Int), .int .u64 (base : Int), .int .u64 (up : Int), .int .u64 (ab : Int), .int .u64 0, .int .u64 0, .int .u64 0, .int .u64 0, .slice none 0 0] 60)).cell? ⟨wc.heap.size + 1, 4, none⟩ = some (.slice la ln lcp) := by
  have e : (wc.alloc (.cells #[.pointer (some ⟨wb.heap.size + 1 + 1, 0, none⟩), .bool false, .bool false, .bool false, .bool false, .bool false, .bool false, .slice none 0 0, .map none, .pointer none, .bool false, .slice none 0 0, .int .u64 0, .int .u64 0, .int .u64 0, .bool false, .map none, .bool false] 55)).heap.size = wc.heap.size + 1 := by simp
  have eE : ∀ i, ((wc.alloc (.cells #[.pointer (some ⟨wb.heap.size + 1 + 1, 0, none⟩), .bool false, .bool false, .bool false, .bool false, .bool false, .bool false, .slice none 0 0, .map none, .pointer none, .bool false, .slice none 0 0, .int .u64 0, .int .u64 0, .int .u64 0, .bool false, .map none, .bool false] 55)).alloc (.cells #[.int .i64 org, .int .i64 0, .bool false, .int .u64 0, .slice la ln lcp, .int .u64 (f : Int), .int .u64 (base : Int), .int .u64 (up : Int), .int .u64 (ab : Int), .int .u64 0, .int .u64 0, .int .u64 0, .int .u64 0, .slice none 0 0] 60)).cell? ⟨wc.heap.size, i, none⟩ = (#[.pointer (some ⟨wb.heap.size + 1 + 1, 0, none⟩), .bool false, .bool false, .bool false, .bool false, .bool false, .bool false, .slice none 0 0, .map none, .pointer none, .bool false, .slice none 0 0, .int .u64 0, .int .u64 0, .int .u64 0, .bool false, .map none, .bool false] : Array Value)[i]? := fun i => by
    rw [World.cell?_alloc_lt _ _ _ (by simp), World.cell?_alloc_new]
  have eS : ∀ i, ((wc.alloc (.cells #[.pointer (some ⟨wb.heap.size + 1 + 1, 0, none⟩), .bool false, .bool false, .bool false, .bool false, .bool false, .bool false, .slice none 0 0, .map none, .pointer none, .bool false, .slice none 0 0, .int .u64 0, .int .u64 0, .int .u64 0, .bool false, .map none, .bool false] 55)).alloc (.cells #[.int .i64 org, .int .i64 0, .bool false, .int .u64 0, .slice la ln lcp, .int .u64 (f : Int), .int .u64 (base : Int), .int .u64 (up : Int), .int .u64 (ab : Int), .int .u64 0, .int .u64 0, .int .u64 0, .int .u64 0, .slice none 0 0] 60)).cell? ⟨wc.heap.size + 1, i, none⟩ = (#[.int .i64 org, .int .i64 0, .bool false, .int .u64 0, .slice la ln lcp, .int .u64 (f : Int), .int .u64 (base : Int), .int .u64 (up : Int), .int .u64 (ab : Int), .int .u64 0, .int .u64 0, .int .u64 0, .int .u64 0, .slice none 0 0] : Array Value)[i]? := fun i => by
    rw [← e, World.cell?_alloc_new]
  exact ⟨⟨eE 0, eS 0, eS 5, eS 6, eS 7, eS 8⟩, eS 4⟩

set_option maxRecDepth 100000 in
set_option maxHeartbeats 1600000 in
theorem law_main (org : Int) (n1 n2 : Nat) (a3 : Int) (n4 n5 : Nat) (ka : Option Addr) (kl kc : Nat) (Z : Nat → Int) (m asm : Nat) (has : Bool) (w : World) (hw : (Lit.int .i64 org).wf = true) (hn1 : n1 ≤ 65535) (hn2 : n2 ≤ 65535) (h30 : 0 ≤ a3) (h31 : a3 ≤ 18446744073709551615) (hn4 : n4 ≤ 255) (hn5 : n5 ≤ 65535)
    (hK : SlOf w ka kl (fun j => .int .u8 (Z j))) (hZ : ∀ j, 0 ≤ Z j ∧ Z j ≤ 255) (hkl : kl ≤ 1024) (_hm : m < 18446744073709551616) (hasm : asm < 18446744073709551616) :
    Calls Yba.prog 3 #[.int .i64 org, .int .u16 (n1 : Int), .int .u16 (n2 : Int), .int .u64 a3, .int .u8 (n4 : Int), .int .u16 (n5 : Int), .slice ka kl kc, .int .u64 (m : Int), .int .u64 (asm : Int), .bool has] w fun e w' => e = .returned (.bool true) ∧ Below w.heap.size w w' := by
  obtain ⟨ab, hab, habl⟩ := andNot_u64 a3 h30 h31
  obtain ⟨f1, hf1, hf1l⟩ : ∃ f1 : Nat, (n1 : Int) % 300 = (f1 : Int) ∧ f1 < 300 := ⟨n1 % 300, by omega, by omega⟩
  obtain ⟨up, hup, hupl⟩ : ∃ up : Nat, (n2 : Int) % 300 = (up : Int) ∧ up < 300 := ⟨n2 % 300, by omega, by omega⟩
  obtain ⟨b8, hb8, hb8l⟩ : ∃ b8 : Nat, (n4 : Int) % 8 = (b8 : Int) ∧ b8 < 8 := ⟨n4 % 8, by omega, by omega⟩
  obtain ⟨f, hf⟩ : ∃ f : Nat, (f1 : Int) + 1 = (f : Int) := ⟨f1 + 1, by omega⟩
  obtain ⟨base, hba⟩ : ∃ base : Nat, (f : Int) + (b8 : Int) = (base : Int) := ⟨f + b8, by omega⟩
  obtain ⟨i24, h24, z24, s24, y24⟩ := info_parts' info24
  have HI24 : Hid (Yba.prog.info? 24 = some i24 ∧ i24.zero = some (.slice none 0 0) ∧ i24.size = 1 ∧ i24.bytes = 24) := show _ ∧ _ from ⟨h24, z24, s24, y24⟩
  have HK : Hid (SlOf w ka kl (fun j => .int .u8 (Z j))) := hK
  clear h24 z24 s24 y24 hK
  go_enter Yba.func3, Yba.ntmps3
  go_wp2
  go_loop [25, 26] (fun x i => ∃ k : Nat, k ≤ 64 ∧ i = .int .u64 ((k : Int) + 1) ∧ x = .int .u64 ((up + hi ab k : Nat) : Int)) (fun _ i => 65 - (intOf i).toNat)
  case atStart => exact ⟨0, by omega, rfl, rfl⟩
  case round =>
    obtain ⟨k, hk, rfl, rfl⟩ := hrel
    have hle := hi_le ab k
    by_cases hlt : k < 64
    · have hbt := bit_ne ab k habl
      have ek : ((k : Int) + 1 - 1).toNat = k := by omega
      cases hb : bt ab k
      · have HE : Hid (hi ab (k + 1) = hi ab k) := by
          show hi ab (k + 1) = hi ab k
          rw [hi, hb]; rfl
        rw [hb] at hbt
        clear hb
        go_wp2
        go_round
        case rel => exact ⟨k + 1, by omega, by go_num, by rw [HE.out]⟩
        case measure => simp [intOf]; omega
      · have HE : Hid (hi ab (k + 1) = k + 1) := by
          show hi ab (k + 1) = k + 1
          rw [hi, hb]; rfl
        rw [hb] at hbt
        clear hb
        go_wp2
        go_round
        case rel => exact ⟨k + 1, by omega, by go_num, by rw [HE.out]; go_num⟩
        case measure => simp [intOf]; omega
    · have hk64 : k = 64 := by omega
      have HMX : Hid (up + hi ab k = up + hi ab 64) := show up + hi ab k = up + hi ab 64 by rw [hk64]
      generalize up + hi ab k = mx at *
      have hmxl : mx < 364 := by have := HMX.out; have := hi_le ab 64; omega
      have hfb : 1 ≤ f ∧ f ≤ 300 := by omega
      have hbb : f ≤ base ∧ base ≤ f + 7 := by omega
      clear hf1 hup hb8 hf hba hab hk64
      go_upto_if 73 with fail
      go_cut [27, 28] from 71 to 94 (fun v _ wx => LogOk w wx v base mx (kd kl Z) (ad m))
      case first =>
        by_cases hge : base ≤ mx
        · have el : ((mx : Int) - (base : Int) + 1) = ((mx - base + 1 : Nat) : Int) := by omega
          have hll : mx - base + 1 ≤ 400 := by omega
          obtain ⟨ll, hgl⟩ : ∃ ll, ll = mx - base + 1 := ⟨_, rfl⟩
          have HLL : Hid (ll = mx - base + 1) := hgl
          rw [← hgl] at el hll
          clear hgl
          go_wp2_with (at_make; refine wpList_make_full _ rfl (.tmp 77) (.tmp 77) 25 rfl w.heap.size 24 i24 (.slice none 0 0) 1 Yba.underlying25 HI24.out.1 HI24.out.2.1 HI24.out.2.2.1 .u64 .u64 (ll : Int) (ll : Int) ll rfl rfl rfl rfl (by rw [HI24.out.2.2.2]; omega) (by unfold maxLen; omega) (Nat.le_refl _) ?_; intro w1 hown1 hgrow1)
          have h0 : LogInv w w1 ll 0 (fun W j v => PieceOk W w.heap.size v (kd kl Z (base + j)) (ad m (base + j))) := LogInv.start hown1 hgrow1
          clear hown1 hgrow1
          go_loopw [81] (fun i wr => ∃ q : Nat, q ≤ ll ∧ i = .int .i64 q ∧ LogInv w wr ll q (fun W j v => PieceOk W w.heap.size v (kd kl Z (base + j)) (ad m (base + j)))) (fun i _ => ll - (intOf i).toNat)
          case atStart => exact ⟨0, Nat.zero_le _, rfl, h0⟩
          case round =>
            clear h0
            obtain ⟨q, hq, rfl, hinv⟩ := hrel
            by_cases hqlt : q < ll
            · obtain ⟨x, hx, HX⟩ : ∃ x : Nat, (base : Int) + (q : Int) = (x : Int) ∧ Hid (x = base + q) := ⟨base + q, by omega, show base + q = base + q from rfl⟩
              have HC := (show Hid (Calls Yba.prog 4 #[.slice ka kl kc, .int .u64 (m : Int), .int .u64 (x : Int)] wr fun e w' => ∃ v, e = .returned v ∧ PieceOk w' w.heap.size v (kd kl Z x) (ad m x) ∧ Below wr.heap.size wr w') from piece_any wr ka kl kc Z m x (HK.out.below hinv.bel rfl) hZ hkl (by omega) w.heap.size hinv.lt)
              go_wp2_with fail
              refine HC.out.mono ?_
              rintro e w5 ⟨v, rfl, hp5, hb5⟩
              have hinv5 := hinv.below hb5 (fun j v h => h.below hb5)
              obtain ⟨u0, hu0⟩ := hinv5.cl q hqlt
              have hf0 := hinv5.fr q
              have HP : Hid (LogInv w (w5.setCell ⟨w.heap.size, q, none⟩ v) ll (q + 1) (fun W j v => PieceOk W w.heap.size v (kd kl Z (base + j)) (ad m (base + j)))) := by
                have hk : ∀ b o u, w.heap.size < b → w5.cell? ⟨b, o, none⟩ = some u → (w5.setCell ⟨w.heap.size, q, none⟩ v).cell? ⟨b, o, none⟩ = some u := fun b o u hlt hc => by
                  rw [far _ _ _ _ _ _ (.inl (by omega))]; exact hc
                refine show LogInv _ _ _ _ _ from hinv5.put hqlt v ?_ (fun j u h => h.keep hk)
                rw [HX.out] at hp5
                exact hp5.keep hk
              obtain ⟨pa, pn, pc, rfl⟩ : ∃ pa pn pc, v = .slice pa pn pc := by
                rcases hp5 with ⟨_, b, o, c, e, _⟩ | ⟨_, b, o, c, e, _⟩ | ⟨_, _, ao, c, e⟩
                · exact ⟨_, _, _, e⟩
                · exact ⟨_, _, _, e⟩
                · exact ⟨_, _, _, e⟩
              clear hinv hinv5 hp5 HC
              go_wp2_with fail
              go_roundw
              case rel => exact ⟨q + 1, by omega, by go_num, HP.out⟩
              case measure => simp [intOf]; omega
            · obtain rfl : ll = q := by omega
              go_wp2_with fail
              go_meet
              case rel =>
                refine show LogOk _ _ _ _ _ _ _ from ⟨hinv.bel, fun _ => ⟨w.heap.size, by rw [← HLL.out], fun j hj => ?_⟩, fun h => by omega⟩
                rw [← HLL.out] at hj
                exact hinv.dn j hj
        · go_wp2_with fail
          go_meet
          case rel => exact show LogOk _ _ _ _ _ _ _ from ⟨Below.refl _ _, fun h => absurd h hge, fun _ => rfl⟩
      case rest =>
        obtain ⟨hbC, hlog1, hlog2⟩ := hcut
        obtain ⟨wb, rfl⟩ : ∃ wb : World, wb = wc := ⟨_, rfl⟩
        have HKC : Hid (SlOf wb ka kl (fun j => .int .u8 (Z j))) := HK.out.below hbC rfl
        obtain ⟨x, hx, hxl⟩ : ∃ x : Nat, (n5 : Int) % ((mx : Int) + 3) = (x : Int) ∧ x < mx + 3 := ⟨n5 % (mx + 3), by rw [show (mx : Int) + 3 = ((mx + 3 : Nat) : Int) by omega]; exact (Int.natCast_emod _ _).symm, Nat.mod_lt _ (by omega)⟩
        obtain ⟨la, ln, lcp, rfl⟩ : ∃ la ln lcp, u27 = .slice la ln lcp := by
          by_cases h : base ≤ mx
          · obtain ⟨lb, e, _⟩ := hlog1 h
            exact ⟨_, _, _, e⟩
          · exact ⟨_, _, _, hlog2 (by omega)⟩
        have HLOG := (show Hid (base ≤ mx → ∃ lb, (Value.slice la ln lcp) = .slice (some ⟨lb, 0, none⟩) (mx - base + 1) (mx - base + 1) ∧ ∀ j, j < mx - base + 1 → ∃ u, wb.cell? ⟨lb, j, none⟩ = some u ∧ PieceOk wb lb u (kd kl Z (base + j)) (ad m (base + j))) from hlog1)
        clear hlog1 hlog2
        have hmm := @run_makeMap Yba.prog
        go_upto_if 109 with fail
        clear hmm
        rw [hx]
        clear hx
        have hV0 : VS wb (((wb.alloc (.cells #[.slice ka kl kc, .int .u64 (m : Int), .int .i64 0, .int .i64 0, .int .u64 0] 29)).alloc (.map #[] 0)).alloc (.cells #[.int .i64 0, .iface 27 (.pointer (some ⟨wb.heap.size, 0, none⟩)), .slice none 0 0, .map none, .bool false, .int .i64 0, .int .i64 0, .bool false, .slice none 0 0, .bool false, .map (some (wb.heap.size + 1)), .int .u64 0, .int .u64 0, .int .i64 0, .bool false, .pointer none, .bool false, .bool false, .int .u64 0, .int .u8 0, .int .i64 0, .int .u64 0] 41)) org ka kl kc m 0 0 0 none := vs_start wb org ka kl kc m
        generalize (((wb.alloc (.cells #[.slice ka kl kc, .int .u64 (m : Int), .int .i64 0, .int .i64 0, .int .u64 0] 29)).alloc (.map #[] 0)).alloc (.cells #[.int .i64 0, .iface 27 (.pointer (some ⟨wb.heap.size, 0, none⟩)), .slice none 0 0, .map none, .bool false, .int .i64 0, .int .i64 0, .bool false, .slice none 0 0, .bool false, .map (some (wb.heap.size + 1)), .int .u64 0, .int .u64 0, .int .i64 0, .bool false, .pointer none, .bool false, .bool false, .int .u64 0, .int .u8 0, .int .i64 0, .int .u64 0] 41)) = wm at *
        go_cut [109] from 109 to 117 (fun _ wx => ∃ xo : Option Nat, (has = true → ∃ A, xo = some A ∧ wx.cell? ⟨A, 2, none⟩ = some (.int .u64 (asm : Int))) ∧ (has = false → xo = none) ∧ VS wb wx org ka kl kc m 0 0 0 xo)
        case first =>
          cases has
          · go_wp2_with fail
            go_meet
            case rel => exact ⟨none, fun h => (by cases h), fun _ => rfl, hV0⟩
          · have hA1 : AsmAt (wm.alloc (.cells #[.int .u64 0, .int .u64 0, .int .u64 (asm : Int), .int .u64 0, .slice none 0 0, .int .u64 0, .int .u64 0, .bool false, .slice none 0 0, .int .u64 0, .int .u64 0] 45)) (wb.heap.size + 1) org none := hV0.am.of_block (Below.heap_alloc wm _ _ hV0.am.lt)
            obtain ⟨w2, hrun, hA2, hgr⟩ := hA1.put hw wm.heap.size
            have hVA : VS wb (wm.alloc (.cells #[.int .u64 0, .int .u64 0, .int .u64 (asm : Int), .int .u64 0, .slice none 0 0, .int .u64 0, .int .u64 0, .bool false, .slice none 0 0, .int .u64 0, .int .u64 0] 45)) org ka kl kc m 0 0 0 none := hV0.below ((Below.refl _ _).alloc (Nat.le_refl _) _)
            have hg := hV0.g10
            have hgA := hVA.g10
            have hlt := hV0.lt
            have HV : Hid (VS wb w2 org ka kl kc m 0 0 0 (some wm.heap.size)) := hVA.put hgr hA2 (fun i => by
              have := hVA.vf i
              have hb : w2.heap[wb.heap.size]? = (wm.alloc (.cells #[.int .u64 0, .int .u64 0, .int .u64 (asm : Int), .int .u64 0, .slice none 0 0, .int .u64 0, .int .u64 0, .bool false, .slice none 0 0, .int .u64 0, .int .u64 0] 45)).heap[wb.heap.size]? := hgr.block _ (by simp; omega) (by simp)
              rw [World.frozen?_of_block hb]; exact this)
            have HC : Hid (w2.cell? ⟨wm.heap.size, 2, none⟩ = some (.int .u64 (asm : Int))) := hgr.cell (by rw [World.cell?_alloc_new]; rfl) (by simp; omega)
            clear hA1 hA2 hgr hVA hV0
            go_wp2_with fail
            go_meet
            case rel => exact ⟨_, fun _ => ⟨_, rfl, HC.out⟩, fun h => (by cases h), HV.out⟩
        case rest =>
          obtain ⟨xo, hxo1, hxo2, hVS⟩ := hcut
          clear hV0
          have HX1 : Hid (has = true → ∃ A, xo = some A ∧ wc.cell? ⟨A, 2, none⟩ = some (.int .u64 (asm : Int))) := hxo1
          have HX2 : Hid (has = false → xo = none) := hxo2
          have HVS : Hid (VS wb wc org ka kl kc m 0 0 0 xo) := hVS
          clear hxo1 hxo2 hVS
          have hSM := smem_start wb wc org f base up ab la ln lcp
          have hVS4 : VS wb ((wc.alloc (.cells #[.pointer (some ⟨wb.heap.size + 1 + 1, 0, none⟩), .bool false, .bool false, .bool false, .bool false, .bool false, .bool false, .slice none 0 0, .map none, .pointer none, .bool false, .slice none 0 0, .int .u64 0, .int .u64 0, .int .u64 0, .bool false, .map none, .bool false] 55)).alloc (.cells #[.int .i64 org, .int .i64 0, .bool false, .int .u64 0, .slice la ln lcp, .int .u64 (f : Int), .int .u64 (base : Int), .int .u64 (up : Int), .int .u64 (ab : Int), .int .u64 0, .int .u64 0, .int .u64 0, .int .u64 0, .slice none 0 0] 60)) org ka kl kc m 0 0 0 xo := HVS.out.below (((Below.refl _ _).alloc (Nat.le_refl _) _).alloc (by simp) _)
          have HB4 : Hid (Below wc.heap.size wc ((wc.alloc (.cells #[.pointer (some ⟨wb.heap.size + 1 + 1, 0, none⟩), .bool false, .bool false, .bool false, .bool false, .bool false, .bool false, .slice none 0 0, .map none, .pointer none, .bool false, .slice none 0 0, .int .u64 0, .int .u64 0, .int .u64 0, .bool false, .map none, .bool false] 55)).alloc (.cells #[.int .i64 org, .int .i64 0, .bool false, .int .u64 0, .slice la ln lcp, .int .u64 (f : Int), .int .u64 (base : Int), .int .u64 (up : Int), .int .u64 (ab : Int), .int .u64 0, .int .u64 0, .int .u64 0, .int .u64 0, .slice none 0 0] 60))) := (((Below.refl _ _).alloc (Nat.le_refl _) _).alloc (by simp) _)
          have HSM := (show Hid (SMem ((wc.alloc (.cells #[.pointer (some ⟨wb.heap.size + 1 + 1, 0, none⟩), .bool false, .bool false, .bool false, .bool false, .bool false, .bool false, .slice none 0 0, .map none, .pointer none, .bool false, .slice none 0 0, .int .u64 0, .int .u64 0, .int .u64 0, .bool false, .map none, .bool false] 55)).alloc (.cells #[.int .i64 org, .int .i64 0, .bool false, .int .u64 0, .slice la ln lcp, .int .u64 (f : Int), .int .u64 (base : Int), .int .u64 (up : Int), .int .u64 (ab : Int), .int .u64 0, .int .u64 0, .int .u64 0, .int .u64 0, .slice none 0 0] 60)) wc.heap.size (wb.heap.size + 1 + 1) (wc.heap.size + 1) org f base up ab ∧ ((wc.alloc (.cells #[.pointer (some ⟨wb.heap.size + 1 + 1, 0, none⟩), .bool false, .bool false, .bool false, .bool false, .bool false, .bool false, .slice none 0 0, .map none, .pointer none, .bool false, .slice none 0 0, .int .u64 0, .int .u64 0, .int .u64 0, .bool false, .map none, .bool false] 55)).alloc (.cells #[.int .i64 org, .int .i64 0, .bool false, .int .u64 0, .slice la ln lcp, .int .u64 (f : Int), .int .u64 (base : Int), .int .u64 (up : Int), .int .u64 (ab : Int), .int .u64 0, .int .u64 0, .int .u64 0, .int .u64 0, .slice none 0 0] 60)).cell? ⟨wc.heap.size + 1, 4, none⟩ = some (.slice la ln lcp)) from hSM)
          have HV4 : Hid (VS wb ((wc.alloc (.cells #[.pointer (some ⟨wb.heap.size + 1 + 1, 0, none⟩), .bool false, .bool false, .bool false, .bool false, .bool false, .bool false, .slice none 0 0, .map none, .pointer none, .bool false, .slice none 0 0, .int .u64 0, .int .u64 0, .int .u64 0, .bool false, .map none, .bool false] 55)).alloc (.cells #[.int .i64 org, .int .i64 0, .bool false, .int .u64 0, .slice la ln lcp, .int .u64 (f : Int), .int .u64 (base : Int), .int .u64 (up : Int), .int .u64 (ab : Int), .int .u64 0, .int .u64 0, .int .u64 0, .int .u64 0, .slice none 0 0] 60)) org ka kl kc m 0 0 0 xo) := hVS4
          clear hSM hVS4
          go_wp2_with fail
          generalize ((wc.alloc (.cells #[.pointer (some ⟨wb.heap.size + 1 + 1, 0, none⟩), .bool false, .bool false, .bool false, .bool false, .bool false, .bool false, .slice none 0 0, .map none, .pointer none, .bool false, .slice none 0 0, .int .u64 0, .int .u64 0, .int .u64 0, .bool false, .map none, .bool false] 55)).alloc (.cells #[.int .i64 org, .int .i64 0, .bool false, .int .u64 0, .slice la ln lcp, .int .u64 (f : Int), .int .u64 (base : Int), .int .u64 (up : Int), .int .u64 (ab : Int), .int .u64 0, .int .u64 0, .int .u64 0, .int .u64 0, .slice none 0 0] 60)) = w4 at *
          cases hI : inH f up ab x
          · obtain ⟨N, hN1, hN2⟩ : ∃ N : Nat, (∀ A, xo = some A → w4.cell? ⟨A, 2, none⟩ = some (.int .u64 (N : Int))) ∧ (xo = none → N = 0) ∧ N = (if has then asm else 0) := by
              cases has
              · exact ⟨0, fun A h => (by rw [HX2.out rfl] at h; cases h), fun _ => rfl, rfl⟩
              · refine ⟨asm, fun A h => ?_, fun h => ?_, rfl⟩
                · obtain ⟨A', h1, h2⟩ := HX1.out rfl
                  rw [h] at h1
                  cases h1
                  exact (HB4.out.cell (p := ⟨A, 2, none⟩) (World.block_lt_of_cell? _ _ h2)).trans h2
                · obtain ⟨A', h1, _⟩ := HX1.out rfl
                  rw [h] at h1
                  cases h1
            obtain ⟨hN2, hN3⟩ := hN2
            have HN3 := (show Hid (N = (if has then asm else 0)) from hN3)
            clear hN3
            refine (call_out HSM.out.1 HV4.out hw hupl habl hI N hN1 hN2).mono ?_
            rintro e w5 ⟨rfl, A, hv5, hc5⟩
            clear hN1 hN2 HX1 HX2 HV4 HSM HB4 HVS
            go_upto_region 29 with fail
            go_cut [35] from 134 to 156 (fun v wx => v = .bool (inH f up ab x) ∧ wx = w5)
            case first =>
              have HMX2 := HMX.out
              have hh64 := hi_le ab 64
              by_cases h1 : f ≤ x
              · by_cases h2 : x ≤ mx
                · by_cases h3 : x ≤ up
                  · have HE : Hid (inH f up ab x = true) := show inH f up ab x = true by simp [inH, hasN, h1, h3, show x ≤ up + hi ab 64 by omega]
                    clear HMX2
                    go_wp2_with fail
                    go_meet
                    case rel => exact ⟨by rw [HE.out], rfl⟩
                  · have hbt := bit_ne ab (x - up - 1) habl
                    have e1 : ((x : Int) - (up : Int) - 1).toNat = x - up - 1 := by omega
                    have h4 : x ≤ up + 64 := by omega
                    have h5 : up < x := by omega
                    have HE : Hid (inH f up ab x = bt ab (x - up - 1)) := show inH f up ab x = bt ab (x - up - 1) by simp [inH, hasN, h1, h3, show x ≤ up + hi ab 64 by omega, show x ≤ up + 64 by omega]
                    clear HMX2
                    go_wp2_with fail
                    go_meet
                    case rel => exact ⟨by rw [HE.out], rfl⟩
                · have HE : Hid (inH f up ab x = false) := show inH f up ab x = false by simp [inH, show ¬ x ≤ up + hi ab 64 by omega]
                  clear HMX2
                  go_wp2_with fail
                  go_meet
                  case rel => exact ⟨by rw [HE.out], rfl⟩
              · have HE : Hid (inH f up ab x = false) := show inH f up ab x = false by simp [inH, h1]
                clear HMX2
                go_wp2_with fail
                go_meet
                case rel => exact ⟨by rw [HE.out], rfl⟩
            case rest =>
              obtain ⟨rfl, rfl⟩ := hcut
              rw [hI]
              have hg := hv5.g10
              have hlk := hv5.am.look hw
              have hln := hv5.am.len 3
              have hv2 := hv5.v2
              have HBF : Hid (Below w.heap.size w wc) := hbC.trans (hv5.bel.mono hbC.size)
              cases has
              · obtain rfl : N = 0 := HN3.out
                go_wp2_with fail
                go_ret
                exact ⟨rfl, HBF.out⟩
              · obtain rfl : N = asm := HN3.out
                go_wp2_with fail
                go_ret
                exact ⟨rfl, HBF.out⟩
          · have hxm : x ≤ mx := by
              have := HMX.out
              simp only [inH, Bool.and_eq_true, decide_eq_true_eq] at hI
              omega
            by_cases hlow : x < base
            · refine (call_low HSM.out.1 HV4.out hupl habl hI (by omega) hlow HKC.out hZ hkl).mono ?_
              rintro e w5 ⟨rfl, hv5⟩
              clear HV4 HSM HB4 HVS HLOG
              go_upto_region 29 with fail
              go_cut [35] from 134 to 156 (fun v wx => v = .bool (inH f up ab x) ∧ wx = w5)
              case first =>
                have HMX2 := HMX.out
                have hh64 := hi_le ab 64
                by_cases h1 : f ≤ x
                · by_cases h2 : x ≤ mx
                  · by_cases h3 : x ≤ up
                    · have HE : Hid (inH f up ab x = true) := show inH f up ab x = true by simp [inH, hasN, h1, h3, show x ≤ up + hi ab 64 by omega]
                      clear HMX2
                      go_wp2_with fail
                      go_meet
                      case rel => exact ⟨by rw [HE.out], rfl⟩
                    · have hbt := bit_ne ab (x - up - 1) habl
                      have e1 : ((x : Int) - (up : Int) - 1).toNat = x - up - 1 := by omega
                      have h4 : x ≤ up + 64 := by omega
                      have h5 : up < x := by omega
                      have HE : Hid (inH f up ab x = bt ab (x - up - 1)) := show inH f up ab x = bt ab (x - up - 1) by simp [inH, hasN, h1, h3, show x ≤ up + hi ab 64 by omega, show x ≤ up + 64 by omega]
                      clear HMX2
                      go_wp2_with fail
                      go_meet
                      case rel => exact ⟨by rw [HE.out], rfl⟩
                  · exact absurd hxm h2
                · have HE : Hid (inH f up ab x = false) := show inH f up ab x = false by simp [inH, h1]
                  clear HMX2
                  go_wp2_with fail
                  go_meet
                  case rel => exact ⟨by rw [HE.out], rfl⟩
              case rest =>
                obtain ⟨rfl, rfl⟩ := hcut
                rw [hI]
                have hg := hv5.g10
                have hln := hv5.am.len 3
                have hv2 := hv5.v2
                have hv3 := hv5.v3
                have hv4 := hv5.v4
                have HBF : Hid (Below w.heap.size w wc) := hbC.trans (hv5.bel.mono hbC.size)
                have hwt := want_any wc ka kl kc Z m x (HKC.out.below hv5.bel rfl) hZ hkl (by omega)
                generalize wantOf (kd kl Z x) x (ad m x) = Nw at *
                have HWT := (show Hid (Calls Yba.prog 6 #[.slice ka kl kc, .int .u64 (m : Int), .int .u64 (x : Int)] wc fun e w' => e = .returned (.int .u64 (Nw : Int)) ∧ w' = wc) from hwt)
                clear hwt
                cases has
                · obtain rfl := HX2.out rfl
                  go_wp2_with fail
                  refine HWT.out.mono ?_
                  rintro e w6 ⟨rfl, rfl⟩
                  go_wp2_with fail
                  go_ret
                  exact ⟨rfl, HBF.out⟩
                · obtain ⟨A, rfl, _⟩ := HX1.out rfl
                  go_wp2_with fail
                  refine HWT.out.mono ?_
                  rintro e w6 ⟨rfl, rfl⟩
                  go_wp2_with fail
                  go_ret
                  exact ⟨rfl, HBF.out⟩
            · obtain ⟨lb, e, hj⟩ := HLOG.out (by omega)
              injection e with e1 e2 e3
              subst e1 e2 e3
              obtain ⟨u, hu, hpu⟩ := hj (x - base) (by omega)
              rw [show base + (x - base) = x by omega] at hpu
              have hb4 := HV4.out.bel
              refine (call_log (Z := Z) HSM.out.1 HV4.out hupl habl hI (by omega) (by omega) HSM.out.2 (by omega) (by omega) ((hb4.cell (p := ⟨lb, x - base, none⟩) (World.block_lt_of_cell? _ _ hu)).trans hu) (hpu.below hb4)).mono ?_
              rintro e w5 ⟨rfl, hv5⟩
              clear HV4 HSM HB4 HVS HLOG hj hu hpu hb4
              go_upto_region 29 with fail
              go_cut [35] from 134 to 156 (fun v wx => v = .bool (inH f up ab x) ∧ wx = w5)
              case first =>
                have HMX2 := HMX.out
                have hh64 := hi_le ab 64
                by_cases h1 : f ≤ x
                · by_cases h2 : x ≤ mx
                  · by_cases h3 : x ≤ up
                    · have HE : Hid (inH f up ab x = true) := show inH f up ab x = true by simp [inH, hasN, h1, h3, show x ≤ up + hi ab 64 by omega]
                      clear HMX2
                      go_wp2_with fail
                      go_meet
                      case rel => exact ⟨by rw [HE.out], rfl⟩
                    · have hbt := bit_ne ab (x - up - 1) habl
                      have e1 : ((x : Int) - (up : Int) - 1).toNat = x - up - 1 := by omega
                      have h4 : x ≤ up + 64 := by omega
                      have h5 : up < x := by omega
                      have HE : Hid (inH f up ab x = bt ab (x - up - 1)) := show inH f up ab x = bt ab (x - up - 1) by simp [inH, hasN, h1, h3, show x ≤ up + hi ab 64 by omega, show x ≤ up + 64 by omega]
                      clear HMX2
                      go_wp2_with fail
                      go_meet
                      case rel => exact ⟨by rw [HE.out], rfl⟩
                  · exact absurd hxm h2
                · have HE : Hid (inH f up ab x = false) := show inH f up ab x = false by simp [inH, h1]
                  clear HMX2
                  go_wp2_with fail
                  go_meet
                  case rel => exact ⟨by rw [HE.out], rfl⟩
              case rest =>
                obtain ⟨rfl, rfl⟩ := hcut
                rw [hI]
                have hg := hv5.g10
                have hln := hv5.am.len 3
                have hv2 := hv5.v2
                have hv3 := hv5.v3
                have hv4 := hv5.v4
                have HBF : Hid (Below w.heap.size w wc) := hbC.trans (hv5.bel.mono hbC.size)
                have hwt := want_any wc ka kl kc Z m x (HKC.out.below hv5.bel rfl) hZ hkl (by omega)
                generalize wantOf (kd kl Z x) x (ad m x) = Nw at *
                have HWT := (show Hid (Calls Yba.prog 6 #[.slice ka kl kc, .int .u64 (m : Int), .int .u64 (x : Int)] wc fun e w' => e = .returned (.int .u64 (Nw : Int)) ∧ w' = wc) from hwt)
                clear hwt
                cases has
                · obtain rfl := HX2.out rfl
                  go_wp2_with fail
                  refine HWT.out.mono ?_
                  rintro e w6 ⟨rfl, rfl⟩
                  go_wp2_with fail
                  go_ret
                  exact ⟨rfl, HBF.out⟩
                · obtain ⟨A, rfl, _⟩ := HX1.out rfl
                  go_wp2_with fail
                  refine HWT.out.mono ?_
                  rintro e w6 ⟨rfl, rfl⟩
                  go_wp2_with fail
                  go_ret
                  exact ⟨rfl, HBF.out⟩
end Go.Proofs.Ybulkceue
