/-
  DERIVED. protocol.LawS4047BMessage: messageOf.
-/
import Derived.Test.YbulkceueMsg
namespace Go.Proofs.Ybulkceue
open Go.RowKit

/-- Is x kept: at or behind f, within the set? -/
def inH (f up ab x : Nat) : Bool := decide (f ≤ x) && decide (x ≤ up + hi ab 64) && hasN up ab x

/-- What messageOf reads of the engine and of the stream. -/
structure SMem (w : World) (E G S : Nat) (org : Int) (f base up ab : Nat) : Prop where
  e0 : w.cell? ⟨E, 0, none⟩ = some (.pointer (some ⟨G, 0, none⟩))
  s0 : w.cell? ⟨S, 0, none⟩ = some (.int .i64 org)
  s5 : w.cell? ⟨S, 5, none⟩ = some (.int .u64 (f : Int))
  s6 : w.cell? ⟨S, 6, none⟩ = some (.int .u64 (base : Int))
  s7 : w.cell? ⟨S, 7, none⟩ = some (.int .u64 (up : Int))
  s8 : w.cell? ⟨S, 8, none⟩ = some (.int .u64 (ab : Int))

theorem SMem.below {w w' : World} {E G S : Nat} {org : Int} {f base up ab : Nat} (h : SMem w E G S org f base up ab) (hb : Below w.heap.size w w') : SMem w' E G S org f base up ab := by
  have k : ∀ b i v, w.cell? ⟨b, i, none⟩ = some v → w'.cell? ⟨b, i, none⟩ = some v := fun b i v hc => (hb.cell (p := ⟨b, i, none⟩) (World.block_lt_of_cell? _ _ hc)).trans hc
  exact ⟨k _ _ _ h.e0, k _ _ _ h.s0, k _ _ _ h.s5, k _ _ _ h.s6, k _ _ _ h.s7, k _ _ _ h.s8⟩

set_option maxRecDepth 100000 in
set_option maxHeartbeats 1600000 in
theorem msg_in (w : World) (E G S : Nat) (org : Int) (f base up ab x : Nat) (hS : SMem w E G S org f base up ab) (hu : up < 300) (ha : ab < 18446744073709551616) (hx : x < 1000000) (hin : inH f up ab x = true) (lo : Nat) (k : Int) (y : Nat) (hy : y < 18446744073709551616) (R' : World → Prop)
    (hP : ∀ w1, Below w.heap.size w w1 → Calls Yba.prog 13 #[.pointer (some ⟨E, 0, none⟩), .pointer (some ⟨S, 0, none⟩), .int .u64 (x : Int)] w1 fun e w' => ∃ v, e = .returned v ∧ PieceOk w' lo v k y ∧ R' w') :
    Calls Yba.prog 5 #[.pointer (some ⟨E, 0, none⟩), .pointer (some ⟨S, 0, none⟩), .int .u64 (x : Int)] w fun e w' => e = .returned (.int .u64 (wantOf k x y : Nat)) ∧ ∃ w1, R' w1 ∧ Below w1.heap.size w1 w' := by
  simp only [inH, Bool.and_eq_true, decide_eq_true_eq] at hin
  obtain ⟨⟨h1, h2⟩, h3⟩ := hin
  have HM := (show Hid (∀ w', Calls Yba.prog 9 #[.agg #[.int .u64 (up : Int), .int .u64 (ab : Int)]] w' fun e w'' => e = .returned (.int .u64 ((up + hi ab 64 : Nat) : Int)) ∧ Below w'.heap.size w' w'') from fun w' => max_any w' up ab hu ha)
  have hh := fun w' => has_any w' up ab x hu ha (by omega)
  rw [h3] at hh
  have HH := (show Hid (∀ w', Calls Yba.prog 10 #[.agg #[.int .u64 (up : Int), .int .u64 (ab : Int)], .int .u64 (x : Int)] w' fun e w'' => e = .returned (.bool true) ∧ Below w'.heap.size w' w'') from hh)
  have HP := (show Hid (∀ w1, Below w.heap.size w w1 → Calls Yba.prog 13 #[.pointer (some ⟨E, 0, none⟩), .pointer (some ⟨S, 0, none⟩), .int .u64 (x : Int)] w1 fun e w' => ∃ v, e = .returned v ∧ PieceOk w' lo v k y ∧ R' w') from hP)
  have hh64 := hi_le ab 64
  generalize hi ab 64 = hb at *
  obtain ⟨_, _, s5, _, s7, s8⟩ := id hS
  clear hh h3 hP
  go_enter Yba.func5, Yba.ntmps5
  go_wp2_with fail
  refine (HM.out _).mono ?_
  rintro e w1 ⟨rfl, hb1⟩
  obtain ⟨_, _, t5, _, t7, t8⟩ := hS.below hb1
  clear s5 s7 s8
  go_wp2_with fail
  refine (HH.out _).mono ?_
  rintro e w2 ⟨rfl, hb2⟩
  have hb2' : Below w.heap.size w w2 := hb1.trans (hb2.mono hb1.size)
  clear t5 t7 t8 hb1 hb2
  go_wp2_with fail
  refine (HP.out _ hb2').mono ?_
  rintro e w3 ⟨v, rfl, hp3, hr3⟩
  go_wp2_with fail
  refine (mop_any w3 lo v k x y hp3 (by omega) hy).mono ?_
  rintro e w4 ⟨rfl, hb4⟩
  go_wp2_with fail
  go_ret
  exact ⟨rfl, w3, hr3, hb4⟩

/-- The way out through assemblyOf. -/
def AsmR (w : World) (G : Nat) (org : Int) (R : Ending → World → Prop) : Prop :=
  ∀ w1, Below w.heap.size w w1 → Calls Yba.prog 11 #[.pointer (some ⟨G, 0, none⟩), .int .i64 org] w1 fun e w' => ∃ A N, e = .returned (.pointer (some ⟨A, 0, none⟩)) ∧ w'.cell? ⟨A, 2, none⟩ = some (.int .u64 N) ∧ R (.returned (.int .u64 N)) w'

set_option maxRecDepth 100000 in
set_option maxHeartbeats 1600000 in
theorem msg_out1 (w : World) (E G S : Nat) (org : Int) (f base up ab x : Nat) (hS : SMem w E G S org f base up ab) (h1 : x < f) (R : Ending → World → Prop) (hA : AsmR w G org R) :
    Calls Yba.prog 5 #[.pointer (some ⟨E, 0, none⟩), .pointer (some ⟨S, 0, none⟩), .int .u64 (x : Int)] w R := by
  have HA := (show Hid (Calls Yba.prog 11 #[.pointer (some ⟨G, 0, none⟩), .int .i64 org] w.drew fun e w' => ∃ A N, e = .returned (.pointer (some ⟨A, 0, none⟩)) ∧ w'.cell? ⟨A, 2, none⟩ = some (.int .u64 N) ∧ R (.returned (.int .u64 N)) w') from hA w.drew (Below.refl _ _).drew)
  obtain ⟨e0, s0, s5, _, s7, s8⟩ := hS
  clear hA
  go_enter Yba.func5, Yba.ntmps5
  go_wp2_with fail
  go_region_with (first | (go_at_call 11; refine HA.out.mono ?_; rintro e w9 ⟨A, N, rfl, hc9, hR9⟩))
  all_goals
    go_wp2_with fail
    go_ret
    exact hR9

set_option maxRecDepth 100000 in
set_option maxHeartbeats 1600000 in
theorem msg_out2 (w : World) (E G S : Nat) (org : Int) (f base up ab x : Nat) (hS : SMem w E G S org f base up ab) (hu : up < 300) (ha : ab < 18446744073709551616) (h1 : f ≤ x) (h2 : up + hi ab 64 < x) (R : Ending → World → Prop) (hA : AsmR w G org R) :
    Calls Yba.prog 5 #[.pointer (some ⟨E, 0, none⟩), .pointer (some ⟨S, 0, none⟩), .int .u64 (x : Int)] w R := by
  have HM := (show Hid (∀ w', Calls Yba.prog 9 #[.agg #[.int .u64 (up : Int), .int .u64 (ab : Int)]] w' fun e w'' => e = .returned (.int .u64 ((up + hi ab 64 : Nat) : Int)) ∧ Below w'.heap.size w' w'') from fun w' => max_any w' up ab hu ha)
  have HA := (show Hid (AsmR w G org R) from hA)
  have hh64 := hi_le ab 64
  generalize hi ab 64 = hb at *
  obtain ⟨e0, s0, s5, _, s7, s8⟩ := id hS
  clear hA
  go_enter Yba.func5, Yba.ntmps5
  go_wp2_with fail
  refine (HM.out _).mono ?_
  rintro e w1 ⟨rfl, hb1⟩
  obtain ⟨t0, t1, t5, _, t7, t8⟩ := hS.below hb1
  have HA1 := (show Hid (Calls Yba.prog 11 #[.pointer (some ⟨G, 0, none⟩), .int .i64 org] w1.drew fun e w' => ∃ A N, e = .returned (.pointer (some ⟨A, 0, none⟩)) ∧ w'.cell? ⟨A, 2, none⟩ = some (.int .u64 N) ∧ R (.returned (.int .u64 N)) w') from HA.out w1.drew hb1.drew)
  clear e0 s0 s5 s7 s8 HA hb1 HM
  go_wp2_with fail
  go_region_with (first | (go_at_call 11; refine HA1.out.mono ?_; rintro e w9 ⟨A, N, rfl, hc9, hR9⟩))
  all_goals
    go_wp2_with fail
    go_ret
    exact hR9

set_option maxRecDepth 100000 in
set_option maxHeartbeats 1600000 in
theorem msg_out3 (w : World) (E G S : Nat) (org : Int) (f base up ab x : Nat) (hS : SMem w E G S org f base up ab) (hu : up < 300) (ha : ab < 18446744073709551616) (h1 : f ≤ x) (h2 : x ≤ up + hi ab 64) (h3 : hasN up ab x = false) (R : Ending → World → Prop) (hA : AsmR w G org R) :
    Calls Yba.prog 5 #[.pointer (some ⟨E, 0, none⟩), .pointer (some ⟨S, 0, none⟩), .int .u64 (x : Int)] w R := by
  have HM := (show Hid (∀ w', Calls Yba.prog 9 #[.agg #[.int .u64 (up : Int), .int .u64 (ab : Int)]] w' fun e w'' => e = .returned (.int .u64 ((up + hi ab 64 : Nat) : Int)) ∧ Below w'.heap.size w' w'') from fun w' => max_any w' up ab hu ha)
  have HA := (show Hid (AsmR w G org R) from hA)
  have hh64 := hi_le ab 64
  have hh := fun w' => has_any w' up ab x hu ha (by omega)
  rw [h3] at hh
  have HH := (show Hid (∀ w', Calls Yba.prog 10 #[.agg #[.int .u64 (up : Int), .int .u64 (ab : Int)], .int .u64 (x : Int)] w' fun e w'' => e = .returned (.bool false) ∧ Below w'.heap.size w' w'') from hh)
  generalize hi ab 64 = hb at *
  obtain ⟨e0, s0, s5, _, s7, s8⟩ := id hS
  clear hA hh h3
  go_enter Yba.func5, Yba.ntmps5
  go_wp2_with fail
  refine (HM.out _).mono ?_
  rintro e w1 ⟨rfl, hb1⟩
  obtain ⟨t0, t1, t5, _, t7, t8⟩ := hS.below hb1
  clear e0 s0 s5 s7 s8 HM
  go_wp2_with fail
  refine (HH.out _).mono ?_
  rintro e w2 ⟨rfl, hb2⟩
  have hb2' : Below w.heap.size w w2 := hb1.trans (hb2.mono hb1.size)
  obtain ⟨e0, s0, s5, _, s7, s8⟩ := hS.below hb2'
  have HA1 := (show Hid (Calls Yba.prog 11 #[.pointer (some ⟨G, 0, none⟩), .int .i64 org] w2.drew fun e w' => ∃ A N, e = .returned (.pointer (some ⟨A, 0, none⟩)) ∧ w'.cell? ⟨A, 2, none⟩ = some (.int .u64 N) ∧ R (.returned (.int .u64 N)) w') from HA.out w2.drew hb2'.drew)
  clear t0 t1 t5 t7 t8 HA hb1 hb2 HH
  go_wp2_with fail
  go_region_with (first | (go_at_call 11; refine HA1.out.mono ?_; rintro e w9 ⟨A, N, rfl, hc9, hR9⟩))
  all_goals
    go_wp2_with fail
    go_ret
    exact hR9

theorem msg_out (w : World) (E G S : Nat) (org : Int) (f base up ab x : Nat) (hS : SMem w E G S org f base up ab) (hu : up < 300) (ha : ab < 18446744073709551616) (hin : inH f up ab x = false) (R : Ending → World → Prop) (hA : AsmR w G org R) :
    Calls Yba.prog 5 #[.pointer (some ⟨E, 0, none⟩), .pointer (some ⟨S, 0, none⟩), .int .u64 (x : Int)] w R := by
  by_cases h1 : x < f
  · exact msg_out1 w E G S org f base up ab x hS h1 R hA
  · by_cases h2 : up + hi ab 64 < x
    · exact msg_out2 w E G S org f base up ab x hS hu ha (by omega) h2 R hA
    · have h3 : hasN up ab x = false := by
        simpa [inH, show f ≤ x by omega, show x ≤ up + hi ab 64 by omega] using hin
      exact msg_out3 w E G S org f base up ab x hS hu ha (by omega) (by omega) h3 R hA
end Go.Proofs.Ybulkceue
