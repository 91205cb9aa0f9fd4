/-
  DERIVED. chunk.LawS4046CModel: THE ROW's PROOF.
-/
import Derived.Test.YbulkcetqRows
import Derived.Test.YbulkcetqCMain
import Derived.Test.YbulkcetqCEarly
import Derived.WalkKit
import Derived.ProofKit
import Derived.OpenShut
import Derived.ShutString
import Derived.ChangeOld
import Derived.Below
import Derived.Deep.Matrix
namespace Go.Proofs.Ybulkcetq
open Go.ChangeShapes Go.WideShapes Go.ChangeAt Go.RowKit

theorem own : ownKnob Yba.prog.godebug = none := by kernel_rfl
theorem laidOut : laidOutB Yba.prog = true := by kernel_rfl
theorem cells23 : Yba.prog.cellsOf 23 = 1 := by kernel_rfl
theorem cells5 : Yba.prog.cellsOf 5 = 1 := by kernel_rfl

/-- An address that leads to a cell has no spot. -/
theorem addr_plain {w : World} {a : Addr} {v : Value} (h : w.cell? (a.add 0) = some v) : ∃ b o, a = ⟨b, o, none⟩ := by
  obtain ⟨b, o, s⟩ := a
  have hs : s = none := by simpa [Addr.add] using World.cell?_spot h
  subst hs
  exact ⟨b, o, rfl⟩

theorem add_plain (b o i : Nat) : (⟨b, o, none⟩ : Addr).add i = ⟨b, o + i, none⟩ := by simp [Addr.add]

theorem ints_plain {w : World} {x : Addr} {n cap : Nat} {zs : List Int} (hz : zs.length = cap) (hl : n ≤ cap) (hcell : ∀ i, i < zs.length → w.cell? (x.add i) = some (.int .u8 (zs.getD i 0))) :
    ∀ i, i < n → ∃ b o, some x = some ⟨b, o, none⟩ ∧ w.cell? ⟨b, o + i, none⟩ = some (.int .u8 (zs.getD i 0)) := by
  intro i hi
  obtain ⟨b, o, rfl⟩ := addr_plain (hcell 0 (by omega))
  have := hcell i (by omega)
  rw [add_plain] at this
  exact ⟨b, o, rfl, this⟩

theorem getD_u8 {zs : List Int} (h : ∀ n ∈ zs, (Lit.int .u8 n).wf = true) (i : Nat) : 0 ≤ zs.getD i 0 ∧ zs.getD i 0 ≤ 255 := by
  by_cases hi : i < zs.length
  · have e : zs.getD i 0 = zs[i] := by simp [hi]
    rw [e]
    exact bounds_u8 (h _ (List.getElem_mem hi))
  · have e : zs.getD i 0 = 0 := by simp [Nat.le_of_not_lt hi]
    rw [e]
    omega

/-- EVERY INPUT. -/
theorem cmodel_any (w : World) (a0 : Option Addr) (n hc : Nat) (A : Nat → Option Addr) (L C : Nat → Nat) (Z : Nat → Nat → Int) (aa : Option Addr) (la ac : Nat) (Y : Nat → Int) (fl : Int) (sel : Int)
    (hA0 : 1 ≤ n → ∃ hb ho, a0 = some ⟨hb, ho, none⟩ ∧ CArg w hb ho n A L C Z aa la Y) (hf0 : 0 ≤ fl) (hf1 : fl ≤ 255) (hs0 : 0 ≤ sel) (hs1 : sel ≤ 18446744073709551615) :
    Calls Yba.prog 4 #[.slice a0 n hc, .slice aa la ac, .int .u8 fl, .int .u64 sel] w fun e w' => e = .returned (.bool true) ∧ Below w.heap.size w w' := by
  by_cases hsz : n = 0 ∨ 1024 < n ∨ 1024 < la
  · refine (cmodel_sizes w a0 n hc aa la ac fl sel hsz).mono ?_
    rintro e w' ⟨rfl, rfl⟩
    exact ⟨rfl, Below.refl _ _⟩
  · obtain ⟨hb, ho, rfl, hA⟩ := hA0 (by omega)
    by_cases hL : ∀ i, i < n → L i ≤ 1024
    · have hc0 : (0 : Int) ≤ sel % (n : Int) := Int.emod_nonneg _ (by omega)
      have hc1 : sel % (n : Int) < (n : Int) := Int.emod_lt_of_pos _ (by omega)
      exact cmodel_main w hb ho n hc A L C Z aa la ac Y fl sel (sel % (n : Int)).toNat (by omega) (by omega) hA (by omega) (by omega) (by omega) hL hf0 hf1 hs0 hs1
    · have hex : ∃ i, i < n ∧ 1024 < L i := by
        apply Classical.byContradiction
        intro hno
        exact hL (fun i hi => Nat.le_of_not_lt (fun hlt => hno ⟨i, hi, hlt⟩))
      obtain ⟨i0, hi0, hbig, hsm⟩ : ∃ i, i < n ∧ 1024 < L i ∧ ∀ j, j < i → L j ≤ 1024 := by
        have : ∀ m, (∀ j, j < m → j < n → L j ≤ 1024) ∨ ∃ i, i < n ∧ 1024 < L i ∧ ∀ j, j < i → L j ≤ 1024 := by
          intro m
          induction m with
          | zero => exact .inl (fun j hj => by omega)
          | succ m ih =>
            rcases ih with ih | ih
            · by_cases hm : m < n ∧ 1024 < L m
              · exact .inr ⟨m, hm.1, hm.2, fun j hj => ih j hj (by omega)⟩
              · refine .inl (fun j hj hjn => ?_)
                by_cases e : j = m
                · subst e; omega
                · exact ih j (by omega) hjn
            · exact .inr ih
        rcases this n with h | h
        · exact absurd (fun i hi => h i hi hi) hL
        · exact h
      refine (cmodel_row w hb ho n hc A L C aa la ac fl sel i0 hA.row (by omega) (by omega) hi0 hbig hsm).mono ?_
      rintro e w' ⟨rfl, rfl⟩
      exact ⟨rfl, Below.refl _ _⟩

set_option maxRecDepth 100000 in
theorem cmodel_lifted (os : Os) (started : os.Started) (H : Type) (enc : TypeId × Value → H) :
    ReturnsInHanded {} Yba.checked os 4 .any (Rows.lawS4046CModelSpec.pre6 enc Yba.prog Yba.f4 Rows.lawS4046CModelRow.domain false) (Rows.lawS4046CModelSpec.post enc Yba.prog Yba.f4 false true false false) := by
  refine returnsInHanded_of_change (C := Yba.checked) own started (by kernel_rfl) Yba.func4
    (ChangeSpec.witness6 (enc := enc) (C := Yba.checked) false ⟨#[], #[.slice none 0 0, .slice none 0 0, .int .u8 0, .int .u64 0], []⟩ 8 (by kernel_rfl) (by kernel_rfl) (by kernel_rfl) (by kernel_rfl)) ?_
  intro W base args ds gs before hval0 hW _ _
  have hval : ∀ (j : Nat) t v, Yba.f4.params[j]? = some t → args[j]? = some v → Value.okWide Yba.prog W .any base t v := hval0
  have hW' := hW
  obtain ⟨p, q, hA0, hV, rfl, hfz, hnd⟩ := hW
  have hA : DataW.TrodAll enc Yba.prog W 0 (fun _ => true) true Yba.f4.params.toList args.toList ds p := hA0
  rw [Yba.params4] at hA hval
  obtain ⟨v0, vs0, d0, ds0, p0, q0, hargs, rfl, rfl, h0, r0⟩ := trodAll_cons hA
  obtain ⟨v1, vs1, d1, ds1, p1, q1, rfl, rfl, rfl, h1, r1⟩ := trodAll_cons r0
  obtain ⟨v2, vs2, d2, ds2, p2, q2, rfl, rfl, rfl, h2, r2⟩ := trodAll_cons r1
  obtain ⟨v3, vs3, d3, ds3, p3, q3, rfl, rfl, rfl, h3, r3⟩ := trodAll_cons r2
  obtain ⟨rfl, rfl, rfl⟩ := trodAll_nil r3
  obtain rfl : args = #[v0, v1, v2, v3] := by cases args; simp_all
  obtain ⟨rfl, rfl⟩ := trodVars_none hV
  obtain ⟨a0, n, hc, rfl⟩ := okWide_slice Yba.underlying22 (hval 0 22 v0 rfl rfl)
  obtain ⟨aa, la, ac, rfl⟩ := okWide_slice Yba.underlying23 (hval 1 23 v1 rfl rfl)
  obtain ⟨fl, rfl, rfl, rfl, w2⟩ := open_int Yba.underlying5 (hval 2 5 v2 rfl rfl) h2
  obtain ⟨sel, rfl, rfl, rfl, w3⟩ := open_int Yba.underlying39 (hval 3 39 v3 rfl rfl) h3
  have k0 := h0
  have k1 := h1
  have lt0 : ∀ x ∈ p0, x.block < W.heap.size := by obtain ⟨m, hm⟩ := k0; exact DataW.trod_lt m _ _ _ hm
  have lt1 : ∀ x ∈ p1, x.block < W.heap.size := by obtain ⟨m, hm⟩ := k1; exact DataW.trod_lt m _ _ _ hm
  obtain ⟨Y, hY1, hY2⟩ : ∃ Y : Nat → Int, (∀ i, i < la → ∃ b o, aa = some ⟨b, o, none⟩ ∧ W.cell? ⟨b, o + i, none⟩ = some (.int .u8 (Y i))) ∧ ∀ i, 0 ≤ Y i ∧ Y i ≤ 255 := by
    obtain ⟨fuel, hf⟩ := h1
    rcases open_ints Yba.underlying23 Yba.underlying5 cells5 hf with ⟨hcs, _⟩ | ⟨x, l, c, zs, hcs, _, hl, hm, hz, _, hcell, hwz⟩
    · simp [Value.cells] at hcs
      obtain ⟨rfl, rfl, rfl⟩ := hcs
      exact ⟨fun _ => 0, fun i hi => by omega, fun _ => ⟨Int.le_refl 0, show (0 : Int) ≤ 255 by decide⟩⟩
    · simp [Value.cells] at hcs
      obtain ⟨rfl, rfl, rfl⟩ := hcs
      exact ⟨fun i => zs.getD i 0, ints_plain (by simpa using hz) hl hcell, getD_u8 hwz⟩
  obtain ⟨A, L, C, Z, hrows⟩ : ∃ (A : Nat → Option Addr) (L C : Nat → Nat) (Z : Nat → Nat → Int), 1 ≤ n → ∃ hb ho, a0 = some ⟨hb, ho, none⟩ ∧ CArg W hb ho n A L C Z aa la Y := by
    obtain ⟨fuel, hf⟩ := h0
    rcases Deep.open_int_rows Yba.underlying22 Yba.underlying23 Yba.underlying5 cells23 cells5 hf with ⟨hcs, _⟩ | ⟨a, len, cap, A, L, C, Z, hcs, _, hl, hm, _, hr⟩
    · simp [Value.cells] at hcs
      obtain ⟨rfl, rfl, rfl⟩ := hcs
      exact ⟨fun _ => none, fun _ => 0, fun _ => 0, fun _ _ => 0, fun h => by omega⟩
    · simp [Value.cells] at hcs
      obtain ⟨rfl, rfl, rfl⟩ := hcs
      refine ⟨A, L, C, fun i j => if i < hc then (Z i).getD j 0 else 0, fun hn => ?_⟩
      obtain ⟨b, o, rfl⟩ := addr_plain (hr 0 (by omega)).1
      refine ⟨b, o, rfl, ⟨fun i hi => ?_, fun i hi hnone => ?_, fun i hi j hj => ?_, fun i j => ?_, hY1, hY2⟩⟩
      · have := (hr i (by omega)).1
        rw [add_plain] at this
        exact this
      · obtain ⟨_, h1, _, _, _, h2, _⟩ := hr i (by omega)
        have := h2 hnone
        omega
      · obtain ⟨_, h1, _, h3, h4, h2, h5⟩ := hr i (by omega)
        cases hAi : A i with
        | none => have := h2 hAi; omega
        | some a' =>
          obtain ⟨_, hcel⟩ := h5 a' hAi
          obtain ⟨b', o', rfl⟩ := addr_plain (hcel 0 (by omega))
          have := hcel j (by omega)
          rw [add_plain] at this
          exact ⟨b', o', rfl, by rw [this, if_pos (show i < hc by omega)]⟩
      · split
        · exact getD_u8 (hr i (by assumption)).2.2.2.2.1 j
        · omega
  clear hA0 hval0
  have f2 := bounds_u8 w2
  have f3 := bounds_u64 w3
  refine (cmodel_any W a0 n hc A L C Z aa la ac Y fl sel hrows f2.1 f2.2 f3.1 f3.2).mono fun e W' ⟨he, bel⟩ => ?_
  subst he
  exact ⟨_, rfl, _, _, _, [], _, [], hW', trodAll_mk1 (shut_bool Yba.underlying4 _), (trodAll_cons_mk (Below.trod laidOut (by kernel_rfl) (of_decide_eq_true (by kernel_rfl)) k0 bel lt0) (trodAll_cons_mk (Below.trod laidOut (by kernel_rfl) (of_decide_eq_true (by kernel_rfl)) k1 bel lt1) (trodAll_cons_mk (shut_int Yba.underlying5 w2) (trodAll_cons_mk (shut_int Yba.underlying39 w3) trodAll_mk0)))), rfl, bel.frame _, fun h => by cases h⟩

/-- THE STATEMENT. -/
theorem cmodel_proved : Rows.LawS4046CModelSaid :=
  OpenClaim.holds_of_wide 4 Yba.f4 rfl rfl rfl rfl rfl rfl rfl ⟨rfl, rfl, rfl, rfl, rfl⟩ rfl rfl rfl rfl rfl (by kernel_rfl) Yba.func4 (by kernel_rfl)
    (of_decide_eq_true (by kernel_rfl)) (by unfold Func.isWrapper; rw [if_neg (of_decide_eq_false (by kernel_rfl))]; exact ⟨rfl, rfl⟩)
    (fun os started H enc _ => cmodel_lifted os started H enc)
end Go.Proofs.Ybulkcetq
