/-
  DERIVED. protocol.LawS4047BMessage: messageOf AS THE LAW CALLS IT.
-/
import Derived.Test.YbulkceueState
namespace Go.Proofs.Ybulkceue
open Go.RowKit

section
variable {wb W : World} {E S : Nat} {org : Int} {f base up ab x : Nat} {ka : Option Addr} {kl kc m : Nat} {xo : Option Nat}

theorem VS.new {w' : World} (h : VS wb W org ka kl kc m 0 0 0 none) (hn : AsmNew W w' (wb.heap.size + 1) org) : VS wb w' org ka kl kc m 0 0 0 (some W.heap.size) := by
  obtain ⟨ha, _, hc, hb⟩ := hn
  have hl := h.lt
  have hB := hb (wb.heap.size + 1) (Nat.le_refl _) (by omega)
  exact ⟨h.bel.trans (hB.mono (by omega)), Nat.lt_of_lt_of_le hl hB.size, hc _ _ _ (by omega) h.v0, hc _ _ _ (by omega) h.v1, hc _ _ _ (by omega) h.v2, hc _ _ _ (by omega) h.v3, hc _ _ _ (by omega) h.v4, fun i => (hB.frozen (p := ⟨_, i, none⟩) (by show wb.heap.size < wb.heap.size + 1; omega)).trans (h.vf i), hc _ _ _ (by omega) h.g1, hc _ _ _ (by omega) h.g10, ha⟩

theorem call_out (hS : SMem W E (wb.heap.size + 1 + 1) S org f base up ab) (hV : VS wb W org ka kl kc m 0 0 0 xo) (hw : (Lit.int .i64 org).wf = true) (hu : up < 300) (ha : ab < 18446744073709551616) (hin : inH f up ab x = false) (N : Nat)
    (h1 : ∀ A, xo = some A → W.cell? ⟨A, 2, none⟩ = some (.int .u64 (N : Int))) (h2 : xo = none → N = 0) :
    Calls Yba.prog 5 #[.pointer (some ⟨E, 0, none⟩), .pointer (some ⟨S, 0, none⟩), .int .u64 (x : Int)] W fun e w' => e = .returned (.int .u64 (N : Int)) ∧ ∃ A, VS wb w' org ka kl kc m 0 0 0 (some A) ∧ w'.cell? ⟨A, 2, none⟩ = some (.int .u64 (N : Int)) := by
  refine msg_out W E _ S org f base up ab x hS hu ha hin _ (fun w1 hb1 => ?_)
  have hV1 := hV.below hb1
  cases xo with
  | some A =>
    refine (asm_has w1 _ _ A org hw hV1.g10 hV1.am).mono ?_
    rintro e w' ⟨rfl, rfl⟩
    have hc := h1 A rfl
    have hc1 := (hb1.cell (p := ⟨A, 2, none⟩) (World.block_lt_of_cell? _ _ hc)).trans hc
    exact ⟨A, _, rfl, hc1, rfl, A, hV1, hc1⟩
  | none =>
    obtain rfl := h2 rfl
    refine (asm_new w1 _ _ org hw hV1.g10 hV1.am).mono ?_
    rintro e w' ⟨rfl, hn⟩
    exact ⟨w1.heap.size, _, rfl, hn.2.1, rfl, _, hV1.new hn, hn.2.1⟩

theorem call_low {Z : Nat → Int} (hS : SMem W E (wb.heap.size + 1 + 1) S org f base up ab) (hV : VS wb W org ka kl kc m 0 0 0 xo) (hu : up < 300) (ha : ab < 18446744073709551616) (hin : inH f up ab x = true) (hx : x < 1000000) (hlow : x < base)
    (hK : SlOf wb ka kl (fun j => .int .u8 (Z j))) (hZ : ∀ j, 0 ≤ Z j ∧ Z j ≤ 255) (hkl : kl ≤ 1024) :
    Calls Yba.prog 5 #[.pointer (some ⟨E, 0, none⟩), .pointer (some ⟨S, 0, none⟩), .int .u64 (x : Int)] W fun e w' => e = .returned (.int .u64 (wantOf (kd kl Z x) x (ad m x) : Nat)) ∧ VS wb w' org ka kl kc m 1 org x xo := by
  refine (msg_in W E _ S org f base up ab x hS hu ha hx hin 0 (kd kl Z x) (ad m x) (ad_lt _ _) (fun w' => VS wb w' org ka kl kc m 1 org x xo) (fun w1 hb1 => ?_)).mono ?_
  · have hV1 := hV.below hb1
    have hS1 := hS.below hb1
    have hVd : VS wb w1.drew org ka kl kc m 0 0 0 xo := hV1.below (Below.refl _ _).drew
    refine pieceof_low w1 E _ wb.heap.size S x base org hlow hS1.s6 hS1.s0 hS1.e0 hV1.g1 _ ?_
    refine (spilled_any w1.drew wb.heap.size org m x ka kl kc Z 0 0 0 (by decide) (by omega) (fun w' hw' => hK.below (hVd.bel.trans hw') rfl) hZ hkl hVd.v0 hVd.v1 hVd.v2 hVd.v3 hVd.v4 hVd.vf 0 (by have := hVd.lt; omega)).mono ?_
    rintro e w' ⟨v, rfl, hp, hb⟩
    exact ⟨v, rfl, v, rfl, hp, (hVd.set (0 + 1) org x).below (hb.mono (by simp))⟩
  · rintro e w' ⟨rfl, w1, hv, hb⟩
    exact ⟨rfl, hv.below hb⟩

theorem call_log {Z : Nat → Int} {lb ll lc : Nat} (hS : SMem W E (wb.heap.size + 1 + 1) S org f base up ab) (hV : VS wb W org ka kl kc m 0 0 0 xo) (hu : up < 300) (ha : ab < 18446744073709551616) (hin : inH f up ab x = true) (hx : x < 1000000) (hlow : base ≤ x)
    (h4 : W.cell? ⟨S, 4, none⟩ = some (.slice (some ⟨lb, 0, none⟩) ll lc)) (hll : ll ≤ 1000000) (hl : x - base < ll) {u : Value} (hc : W.cell? ⟨lb, x - base, none⟩ = some u) (hp : PieceOk W lb u (kd kl Z x) (ad m x)) :
    Calls Yba.prog 5 #[.pointer (some ⟨E, 0, none⟩), .pointer (some ⟨S, 0, none⟩), .int .u64 (x : Int)] W fun e w' => e = .returned (.int .u64 (wantOf (kd kl Z x) x (ad m x) : Nat)) ∧ VS wb w' org ka kl kc m 0 0 0 xo := by
  obtain ⟨pa, pn, pc, rfl⟩ : ∃ pa pn pc, u = .slice pa pn pc := by
    rcases hp with ⟨_, b, o, c, e, _⟩ | ⟨_, b, o, c, e, _⟩ | ⟨_, _, ao, c, e⟩
    · exact ⟨_, _, _, e⟩
    · exact ⟨_, _, _, e⟩
    · exact ⟨_, _, _, e⟩
  refine (msg_in W E _ S org f base up ab x hS hu ha hx hin lb (kd kl Z x) (ad m x) (ad_lt _ _) (fun w' => VS wb w' org ka kl kc m 0 0 0 xo) (fun w1 hb1 => ?_)).mono ?_
  · have hV1 := hV.below hb1
    have hS1 := hS.below hb1
    have k : ∀ b i v, W.cell? ⟨b, i, none⟩ = some v → w1.cell? ⟨b, i, none⟩ = some v := fun b i v hc => (hb1.cell (p := ⟨b, i, none⟩) (World.block_lt_of_cell? _ _ hc)).trans hc
    refine (pieceof_log w1 E S x base lb ll lc pa pn pc hx hlow hl hll (k _ _ _ h4) hS1.s6 (k _ _ _ hc)).mono ?_
    rintro e w' ⟨rfl, n, rfl⟩
    have hbn : Below w1.heap.size w1 (w1.drewN n) := below_drewN (Below.refl _ _) n
    exact ⟨_, rfl, (hp.below hb1).below hbn, hV1.below hbn⟩
  · rintro e w' ⟨rfl, w1, hv, hb⟩
    exact ⟨rfl, hv.below hb⟩
end
end Go.Proofs.Ybulkceue
