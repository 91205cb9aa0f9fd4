/-
  DERIVED. backup.LawS4046APick: THE EARLY RETURNS, EVERY INPUT, THE ROW's PROOF.
-/
import Derived.Test.YbulkcetqRows
import Derived.Test.YbulkcetqAMain
import Derived.WalkKit
import Derived.WalkSpells
import Derived.WalkLawsBesides
import Derived.ProofKit
import Derived.OpenShut
import Derived.ShutString
import Derived.ChangeOld
import Derived.Below
import Derived.Deep.Matrix
import Derived.Deep.Grids
namespace Go.Proofs.Ybulkcetq
open Go.ChangeShapes Go.WideShapes Go.ChangeAt Go.RowKit

theorem own : ownKnob Yba.prog.godebug = none := by kernel_rfl
theorem laidOut : laidOutB Yba.prog = true := by kernel_rfl
theorem cells23 : Yba.prog.cellsOf 23 = 1 := by kernel_rfl
theorem cells5 : Yba.prog.cellsOf 5 = 1 := by kernel_rfl
theorem cells4 : Yba.prog.cellsOf 4 = 1 := by kernel_rfl

set_option maxRecDepth 100000 in
set_option maxHeartbeats 1000000 in
theorem apick_sizes (w : World) (a0 : Option Addr) (n hc : Nat) (aa : Option Addr) (la ac : Nat) (ha : Option Addr) (lh hcap : Nat) (h : 1024 < n ∨ 1024 < la) :
    Calls Yba.prog 3 #[.slice a0 n hc, .slice aa la ac, .slice ha lh hcap] w fun e w' => e = .returned (.bool true) ∧ w' = w := by
  by_cases h1 : 1024 < n
  · have hz2 : decide ((1024 : Int) < (n : Int)) = true := by simp; omega
    go_enter Yba.func3, Yba.ntmps3
    go_wp2
    go_ret
    exact ⟨rfl, rfl⟩
  · have hz2 : decide ((1024 : Int) < (n : Int)) = false := by simp; omega
    have hz3 : decide ((1024 : Int) < (la : Int)) = true := by simp; omega
    go_enter Yba.func3, Yba.ntmps3
    go_wp2
    go_ret
    exact ⟨rfl, rfl⟩

set_option maxRecDepth 100000 in
set_option maxHeartbeats 1000000 in
theorem apick_row (w : World) (a0 : Option Addr) (n hc : Nat) (A : Nat → Option Addr) (L C : Nat → Nat) (aa : Option Addr) (la ac : Nat) (ha : Option Addr) (lh hcap : Nat) (i0 : Nat)
    (hrow : SlOf w a0 n (fun i => .slice (A i) (L i) (C i))) (hn2 : n ≤ 1024) (hla : la ≤ 1024) (hi : i0 < n) (hbig : 1024 < L i0) (hsm : ∀ i, i < i0 → L i ≤ 1024) :
    Calls Yba.prog 3 #[.slice a0 n hc, .slice aa la ac, .slice ha lh hcap] w fun e w' => e = .returned (.bool true) ∧ w' = w := by
  have hz2 : decide ((1024 : Int) < (n : Int)) = false := by simp; omega
  have hz3 : decide ((1024 : Int) < (la : Int)) = false := by simp; omega
  have HR : Hid (SlOf w a0 n (fun i => .slice (A i) (L i) (C i))) := hrow
  clear hrow
  go_enter Yba.func3, Yba.ntmps3
  go_wp2
  go_loop [7] (fun i => ∃ k : Nat, k ≤ i0 ∧ i = .int .i64 k) (fun i => n - (intOf i).toNat)
  case atStart => exact ⟨0, Nat.zero_le _, rfl⟩
  case round =>
    obtain ⟨k, hk, rfl⟩ := hrel
    obtain ⟨hb, ho, rfl, hc1⟩ := HR.out k (by omega)
    by_cases hlt : k < i0
    · have hl := hsm k hlt
      go_wp2
      go_round
      case rel => exact ⟨k + 1, by omega, by go_num⟩
      case measure => simp [intOf]; omega
    · obtain rfl : k = i0 := by omega
      go_wp2
      go_ret
      exact ⟨rfl, rfl⟩

/-- An address that leads to a cell has no spot. -/
theorem addr_plain {w : World} {a : Addr} {v : Value} (h : w.cell? (a.add 0) = some v) : ∃ b o, a = ⟨b, o, none⟩ := by
  obtain ⟨b, o, s⟩ := a
  have hs : s = none := by simpa [Addr.add] using World.cell?_spot h
  subst hs
  exact ⟨b, o, rfl⟩

theorem add_plain (b o i : Nat) : (⟨b, o, none⟩ : Addr).add i = ⟨b, o + i, none⟩ := by simp [Addr.add]

theorem sl_plain {w : World} {x : Addr} {n m : Nat} {V : Nat → Value} (hl : n ≤ m) (hcell : ∀ i, i < m → w.cell? (x.add i) = some (V i)) : SlOf w (some x) n V := by
  intro i hi
  obtain ⟨b, o, rfl⟩ := addr_plain (hcell 0 (by omega))
  have := hcell i (by omega)
  rw [add_plain] at this
  exact ⟨b, o, rfl, this⟩

theorem getD_u8 {zs : List Int} (h : ∀ n ∈ zs, (Lit.int .u8 n).wf = true) (i : Nat) : 0 ≤ zs.getD i 0 ∧ zs.getD i 0 ≤ 255 := by
  by_cases hi : i < zs.length
  · have e : zs.getD i 0 = zs[i] := by simp [hi]
    rw [e]
    exact bounds_u8 (h _ (List.getElem_mem hi))
  · have e : zs.getD i 0 = 0 := by simp [Nat.le_of_not_lt hi]
    rw [e]
    omega

/-- EVERY INPUT. -/
theorem apick_any (w : World) (a0 : Option Addr) (n hc : Nat) (A : Nat → Option Addr) (L C : Nat → Nat) (Z : Nat → Nat → Int) (aa : Option Addr) (la ac : Nat) (Y : Nat → Int) (ha : Option Addr) (lh hcap : Nat) (H0 : Nat → Bool)
    (hA : AArg w a0 n A L C Z aa la Y ha lh H0) :
    Calls Yba.prog 3 #[.slice a0 n hc, .slice aa la ac, .slice ha lh hcap] w fun e w' => e = .returned (.bool true) ∧ Below w.heap.size w w' := by
  by_cases hsz : 1024 < n ∨ 1024 < la
  · refine (apick_sizes w a0 n hc aa la ac ha lh hcap hsz).mono ?_
    rintro e w' ⟨rfl, rfl⟩
    exact ⟨rfl, Below.refl _ _⟩
  · by_cases hL : ∀ i, i < n → L i ≤ 1024
    · exact apick_main w a0 n hc A L C Z aa la ac Y ha lh hcap H0 hA (by omega) (by omega) hL
    · obtain ⟨i0, hi0, hbig, hsm⟩ : ∃ i, i < n ∧ 1024 < L i ∧ ∀ j, j < i → L j ≤ 1024 := by
        have : ∀ m, (∀ j, j < m → j < n → L j ≤ 1024) ∨ ∃ i, i < n ∧ 1024 < L i ∧ ∀ j, j < i → L j ≤ 1024 := by
          intro m
          induction m with
          | zero => exact .inl (fun j hj => by omega)
          | succ m ih =>
            rcases ih with ih | ih
            · by_cases hm : m < n ∧ 1024 < L m
              · exact .inr ⟨m, hm.1, hm.2, fun j hj => ih j hj (by omega)⟩
              · refine .inl (fun j hj hjn => ?_)
                by_cases e : j = m
                · subst e; omega
                · exact ih j (by omega) hjn
            · exact .inr ih
        rcases this n with h | h
        · exact absurd (fun i hi => h i hi hi) hL
        · exact h
      refine (apick_row w a0 n hc A L C aa la ac ha lh hcap i0 hA.row (by omega) (by omega) hi0 hbig hsm).mono ?_
      rintro e w' ⟨rfl, rfl⟩
      exact ⟨rfl, Below.refl _ _⟩

set_option maxRecDepth 100000 in
theorem apick_lifted (os : Os) (started : os.Started) (H : Type) (enc : TypeId × Value → H) :
    ReturnsInHanded {} Yba.checked os 3 .any (Rows.lawS4046APickSpec.pre6 enc Yba.prog Yba.f3 Rows.lawS4046APickRow.domain false) (Rows.lawS4046APickSpec.post enc Yba.prog Yba.f3 false true false false) := by
  refine returnsInHanded_of_change (C := Yba.checked) own started (by kernel_rfl) Yba.func3
    (ChangeSpec.witness6 (enc := enc) (C := Yba.checked) false ⟨#[], #[.slice none 0 0, .slice none 0 0, .slice none 0 0], []⟩ 8 (by kernel_rfl) (by kernel_rfl) (by kernel_rfl) (by kernel_rfl)) ?_
  intro W base args ds gs before hval0 hW _ _
  have hval : ∀ (j : Nat) t v, Yba.f3.params[j]? = some t → args[j]? = some v → Value.okWide Yba.prog W .any base t v := hval0
  have hW' := hW
  obtain ⟨p, q, hA0, hV, rfl, hfz, hnd⟩ := hW
  have hA : DataW.TrodAll enc Yba.prog W 0 (fun _ => true) true Yba.f3.params.toList args.toList ds p := hA0
  rw [Yba.params3] at hA hval
  obtain ⟨v0, vs0, d0, ds0, p0, q0, hargs, rfl, rfl, h0, r0⟩ := trodAll_cons hA
  obtain ⟨v1, vs1, d1, ds1, p1, q1, rfl, rfl, rfl, h1, r1⟩ := trodAll_cons r0
  obtain ⟨v2, vs2, d2, ds2, p2, q2, rfl, rfl, rfl, h2, r2⟩ := trodAll_cons r1
  obtain ⟨rfl, rfl, rfl⟩ := trodAll_nil r2
  obtain rfl : args = #[v0, v1, v2] := by cases args; simp_all
  obtain ⟨rfl, rfl⟩ := trodVars_none hV
  obtain ⟨a0, n, hc, rfl⟩ := okWide_slice Yba.underlying22 (hval 0 22 v0 rfl rfl)
  obtain ⟨aa, la, ac, rfl⟩ := okWide_slice Yba.underlying23 (hval 1 23 v1 rfl rfl)
  obtain ⟨ha, lh, hcap, rfl⟩ := okWide_slice Yba.underlying24 (hval 2 24 v2 rfl rfl)
  have k0 := h0
  have k1 := h1
  have k2 := h2
  have lt0 : ∀ x ∈ p0, x.block < W.heap.size := by obtain ⟨m, hm⟩ := k0; exact DataW.trod_lt m _ _ _ hm
  have lt1 : ∀ x ∈ p1, x.block < W.heap.size := by obtain ⟨m, hm⟩ := k1; exact DataW.trod_lt m _ _ _ hm
  have lt2 : ∀ x ∈ p2, x.block < W.heap.size := by obtain ⟨m, hm⟩ := k2; exact DataW.trod_lt m _ _ _ hm
  obtain ⟨Y, hY1, hY2⟩ : ∃ Y : Nat → Int, SlOf W aa la (fun j => .int .u8 (Y j)) ∧ ∀ i, 0 ≤ Y i ∧ Y i ≤ 255 := by
    obtain ⟨fuel, hf⟩ := h1
    rcases open_ints Yba.underlying23 Yba.underlying5 cells5 hf with ⟨hcs, _⟩ | ⟨x, l, c, zs, hcs, _, hl, hm, hz, _, hcell, hwz⟩
    · simp [Value.cells] at hcs
      obtain ⟨rfl, rfl, rfl⟩ := hcs
      exact ⟨fun _ => 0, fun i hi => by omega, fun _ => ⟨Int.le_refl 0, show (0 : Int) ≤ 255 by decide⟩⟩
    · simp [Value.cells] at hcs
      obtain ⟨rfl, rfl, rfl⟩ := hcs
      have hz' : zs.length = ac := by simpa using hz
      exact ⟨fun i => zs.getD i 0, sl_plain (m := ac) hl (by rw [← hz']; exact hcell), getD_u8 hwz⟩
  obtain ⟨H0, hH⟩ : ∃ H0 : Nat → Bool, SlOf W ha lh (fun j => .bool (H0 j)) := by
    obtain ⟨fuel, hf⟩ := h2
    rcases Deep.open_bools Yba.underlying24 Yba.underlying4 cells4 hf with ⟨hcs, _⟩ | ⟨x, l, c, B, hcs, _, hl, hm, _, hcell⟩
    · simp [Value.cells] at hcs
      obtain ⟨rfl, rfl, rfl⟩ := hcs
      exact ⟨fun _ => false, fun i hi => by omega⟩
    · simp [Value.cells] at hcs
      obtain ⟨rfl, rfl, rfl⟩ := hcs
      exact ⟨B, sl_plain hl hcell⟩
  obtain ⟨A, L, C, Z, hrows⟩ : ∃ (A : Nat → Option Addr) (L C : Nat → Nat) (Z : Nat → Nat → Int), AArg W a0 n A L C Z aa la Y ha lh H0 := by
    obtain ⟨fuel, hf⟩ := h0
    rcases Deep.open_int_rows Yba.underlying22 Yba.underlying23 Yba.underlying5 cells23 cells5 hf with ⟨hcs, _⟩ | ⟨a, len, cap, A, L, C, Z, hcs, _, hl, hm, _, hr⟩
    · simp [Value.cells] at hcs
      obtain ⟨rfl, rfl, rfl⟩ := hcs
      exact ⟨fun _ => none, fun _ => 0, fun _ => 0, fun _ _ => 0, ⟨fun i hi => by omega, fun i hi => by omega, fun _ _ => ⟨Int.le_refl 0, show (0 : Int) ≤ 255 by decide⟩, hY1, hY2, hH⟩⟩
    · simp [Value.cells] at hcs
      obtain ⟨rfl, rfl, rfl⟩ := hcs
      refine ⟨A, L, C, fun i j => if i < hc then (Z i).getD j 0 else 0, ⟨sl_plain (m := hc) hl (fun i hi => (hr i hi).1), fun i hi j hj => ?_, fun i j => ?_, hY1, hY2, hH⟩⟩
      · obtain ⟨_, h1, _, h3, h4, h2, h5⟩ := hr i (by omega)
        cases hAi : A i with
        | none => have := h2 hAi; omega
        | some a' =>
          obtain ⟨_, hcel⟩ := h5 a' hAi
          obtain ⟨b', o', rfl⟩ := addr_plain (hcel 0 (by omega))
          have := hcel j (by omega)
          rw [add_plain] at this
          exact ⟨b', o', rfl, by rw [this]; show _ = some (Value.int .u8 (if i < hc then (Z i).getD j 0 else 0)); rw [if_pos (show i < hc by omega)]⟩
      · show 0 ≤ (if i < hc then (Z i).getD j 0 else 0) ∧ (if i < hc then (Z i).getD j 0 else 0) ≤ 255
        split
        · exact getD_u8 (hr i (by assumption)).2.2.2.2.1 j
        · omega
  clear hA0 hval0
  refine (apick_any W a0 n hc A L C Z aa la ac Y ha lh hcap H0 hrows).mono fun e W' ⟨he, bel⟩ => ?_
  subst he
  exact ⟨_, rfl, _, _, _, [], _, [], hW', trodAll_mk1 (shut_bool Yba.underlying4 _), (trodAll_cons_mk (Below.trod laidOut (by kernel_rfl) (of_decide_eq_true (by kernel_rfl)) k0 bel lt0) (trodAll_cons_mk (Below.trod laidOut (by kernel_rfl) (of_decide_eq_true (by kernel_rfl)) k1 bel lt1) (trodAll_cons_mk (Below.trod laidOut (by kernel_rfl) (of_decide_eq_true (by kernel_rfl)) k2 bel lt2) trodAll_mk0))), rfl, bel.frame _, fun h => by cases h⟩

/-- THE STATEMENT. -/
theorem apick_proved : Rows.LawS4046APickSaid :=
  OpenClaim.holds_of_wide 3 Yba.f3 rfl rfl rfl rfl rfl rfl rfl ⟨rfl, rfl, rfl, rfl, rfl⟩ rfl rfl rfl rfl rfl (by kernel_rfl) Yba.func3 (by kernel_rfl)
    (of_decide_eq_true (by kernel_rfl)) (by unfold Func.isWrapper; rw [if_neg (of_decide_eq_false (by kernel_rfl))]; exact ⟨rfl, rfl⟩)
    (fun os started H enc _ => apick_lifted os started H enc)
end Go.Proofs.Ybulkcetq
