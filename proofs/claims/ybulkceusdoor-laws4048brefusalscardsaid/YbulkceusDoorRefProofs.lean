/-
  DERIVED. journal.LawS4048BRefusals: THE ROW's PROOF AND THE TIED CARD.
-/
import Derived.Test.YbulkceusDoorRows
import Derived.Test.YbulkceusDoorTie
import Derived.Test.YbulkceusDoorCards
import Derived.Test.YbulkceusDoorLaid
import Derived.Test.YbulkceusDoorRef
import Derived.SevenTiedAt
namespace Go.Proofs.YbulkceusDoor
open Go.ChangeShapes Go.WideShapes Go.ChangeAt Go.WideMaps Go.WideElems Go.RowKit

theorem refusals_walk (a0 : Int) (a1 : Int) (a2 : Int) (a3 : Int) (a4 : Int) (a5 : Int) (a6 : Int) (a7 : Int) (a8 : Int) (a9 : Int) (w : World) (w0 : (Lit.int .u8 a0).wf = true) (w1 : (Lit.int .i64 a1).wf = true) (w2 : (Lit.int .u64 a2).wf = true) (w3 : (Lit.int .i64 a3).wf = true) (w4 : (Lit.int .u8 a4).wf = true) (w5 : (Lit.int .u8 a5).wf = true) (w6 : (Lit.int .u8 a6).wf = true) (w7 : (Lit.int .u64 a7).wf = true) (w8 : (Lit.int .u64 a8).wf = true) (w9 : (Lit.int .i64 a9).wf = true) (x0 x1 : Addr)
    (hE0 : w.cell? ⟨0, 0, none⟩ = some (.iface 46 (.pointer (some x0)))) (hE1 : w.cell? ⟨1, 0, none⟩ = some (.iface 46 (.pointer (some x1)))) :
    Calls Ybad.prog 4 #[.int .u8 a0, .int .i64 a1, .int .u64 a2, .int .i64 a3, .int .u8 a4, .int .u8 a5, .int .u8 a6, .int .u64 a7, .int .u64 a8, .int .i64 a9] w fun e w' => e = .returned (.bool true) ∧ Below w.heap.size w w' := by
  have b0 := bounds_u8 w0
  have b1 := bounds_i64 w1
  have b2 := bounds_u64 w2
  have b3 := bounds_i64 w3
  have b4 := bounds_u8 w4
  have b5 := bounds_u8 w5
  have b6 := bounds_u8 w6
  have b7 := bounds_u64 w7
  have b8 := bounds_u64 w8
  have b9 := bounds_i64 w9
  obtain ⟨n0, rfl⟩ : ∃ n : Nat, a0 = n := ⟨a0.toNat, by omega⟩
  obtain ⟨n2, rfl⟩ : ∃ n : Nat, a2 = n := ⟨a2.toNat, by omega⟩
  obtain ⟨n4, rfl⟩ : ∃ n : Nat, a4 = n := ⟨a4.toNat, by omega⟩
  obtain ⟨n5, rfl⟩ : ∃ n : Nat, a5 = n := ⟨a5.toNat, by omega⟩
  obtain ⟨n6, rfl⟩ : ∃ n : Nat, a6 = n := ⟨a6.toNat, by omega⟩
  obtain ⟨n7, rfl⟩ : ∃ n : Nat, a7 = n := ⟨a7.toNat, by omega⟩
  obtain ⟨n8, rfl⟩ : ∃ n : Nat, a8 = n := ⟨a8.toNat, by omega⟩
  exact ref_any n0 a1 n2 a3 n4 n5 n6 n7 n8 a9 x0 x1 w (by omega) b1.1 b1.2 (by omega) b3.1 b3.2 (by omega) (by omega) (by omega) (by omega) (by omega) hE0 hE1

set_option maxRecDepth 100000 in
theorem refusals_lifted (os : Os) (started : os.Started) (H : Type) (enc : TypeId × Value → H) :
    ReturnsInHanded {} Ybad.checked os 4 .any (fun w args => (Rows.lawS4048BRefusalsSpec.pre enc Ybad.prog Ybad.f4 [] false w args ∧ laidMetH Ybad.prog laidB w) ∧ sizedMet enc Ybad.prog Ybad.f4 (OpenSpec.ofChange Rows.lawS4048BRefusalsSpec) false w args)
      (Rows.lawS4048BRefusalsSpec.post enc Ybad.prog Ybad.f4 false true false false) := by
  refine returnsInHanded_of_change_and (C := Ybad.checked) (X := fun w _ => laidMetH Ybad.prog laidB w) (fun _ _ _ hh h => h.of_heap hh) own started (by kernel_rfl) Ybad.func4
    (ChangeSpec.witness_shaped (enc := enc) (C := Ybad.checked) (os := os) (X := fun w _ => laidMetH Ybad.prog laidB w) false (World.doorLaid Ybad.prog 47 os) #[.int .u8 0, .int .i64 0, .int .u64 0, .int .i64 0, .int .u8 0, .int .u8 0, .int .u8 0, .int .u64 0, .int .u64 0, .int .i64 0] 8 rfl (World.shaped_of_RefB (by kernel_rfl) (by kernel_rfl)) (by kernel_rfl) (by kernel_rfl) (by kernel_rfl) (door_met os _)) ?_
  intro W base args ds gs before hval0 hW _ _ hL _
  have hval : ∀ (j : Nat) t v, Ybad.f4.params[j]? = some t → args[j]? = some v → Value.okWide Ybad.prog W .any base t v := hval0
  have hW' := hW
  obtain ⟨p, q, hA0, hV0, rfl, hfz, hnd⟩ := hW
  have hA : DataW.TrodAll enc Ybad.prog W 0 (fun _ => true) true Ybad.f4.params.toList args.toList ds p := hA0
  have hV : DataW.TrodVars enc Ybad.prog W (fun _ => true) [nC, nW] gs q := hV0
  rw [Ybad.params4] at hA hval
  obtain ⟨v0, vs0, d0, ds0, p0, q0, hargs, rfl, rfl, h0, r0⟩ := trodAll_cons hA
  obtain ⟨v1, vs1, d1, ds1, p1, q1, rfl, rfl, rfl, h1, r1⟩ := trodAll_cons r0
  obtain ⟨v2, vs2, d2, ds2, p2, q2, rfl, rfl, rfl, h2, r2⟩ := trodAll_cons r1
  obtain ⟨v3, vs3, d3, ds3, p3, q3, rfl, rfl, rfl, h3, r3⟩ := trodAll_cons r2
  obtain ⟨v4, vs4, d4, ds4, p4, q4, rfl, rfl, rfl, h4, r4⟩ := trodAll_cons r3
  obtain ⟨v5, vs5, d5, ds5, p5, q5, rfl, rfl, rfl, h5, r5⟩ := trodAll_cons r4
  obtain ⟨v6, vs6, d6, ds6, p6, q6, rfl, rfl, rfl, h6, r6⟩ := trodAll_cons r5
  obtain ⟨v7, vs7, d7, ds7, p7, q7, rfl, rfl, rfl, h7, r7⟩ := trodAll_cons r6
  obtain ⟨v8, vs8, d8, ds8, p8, q8, rfl, rfl, rfl, h8, r8⟩ := trodAll_cons r7
  obtain ⟨v9, vs9, d9, ds9, p9, q9, rfl, rfl, rfl, h9, r9⟩ := trodAll_cons r8
  obtain ⟨rfl, rfl, rfl⟩ := trodAll_nil r9
  obtain rfl : args = #[v0, v1, v2, v3, v4, v5, v6, v7, v8, v9] := by cases args; simp_all
  obtain ⟨a0, rfl, rfl, rfl, w0⟩ := open_int Ybad.underlying5 (hval 0 5 v0 rfl rfl) h0
  obtain ⟨a1, rfl, rfl, rfl, w1⟩ := open_int Ybad.underlying2 (hval 1 2 v1 rfl rfl) h1
  obtain ⟨a2, rfl, rfl, rfl, w2⟩ := open_int Ybad.underlying22 (hval 2 22 v2 rfl rfl) h2
  obtain ⟨a3, rfl, rfl, rfl, w3⟩ := open_int Ybad.underlying2 (hval 3 2 v3 rfl rfl) h3
  obtain ⟨a4, rfl, rfl, rfl, w4⟩ := open_int Ybad.underlying5 (hval 4 5 v4 rfl rfl) h4
  obtain ⟨a5, rfl, rfl, rfl, w5⟩ := open_int Ybad.underlying5 (hval 5 5 v5 rfl rfl) h5
  obtain ⟨a6, rfl, rfl, rfl, w6⟩ := open_int Ybad.underlying5 (hval 6 5 v6 rfl rfl) h6
  obtain ⟨a7, rfl, rfl, rfl, w7⟩ := open_int Ybad.underlying22 (hval 7 22 v7 rfl rfl) h7
  obtain ⟨a8, rfl, rfl, rfl, w8⟩ := open_int Ybad.underlying22 (hval 8 22 v8 rfl rfl) h8
  obtain ⟨a9, rfl, rfl, rfl, w9⟩ := open_int Ybad.underlying2 (hval 9 2 v9 rfl rfl) h9
  obtain ⟨x0, x1, hv0, hv1⟩ := of_laid hL
  obtain ⟨rfl, rfl⟩ := hV.unique (vars_read enc hv0 hv1 trivial trivial _)
  clear hA0 hV0 hval0
  have hE0 : W.cell? ⟨0, 0, none⟩ = some (.iface 46 (.pointer (some x0))) := by simpa using World.var?_cell gC hv0 0
  have hE1 : W.cell? ⟨1, 0, none⟩ = some (.iface 46 (.pointer (some x1))) := by simpa using World.var?_cell gW hv1 0
  have hs0 : 0 < W.heap.size := World.block_lt_of_cell? _ _ hE0
  have hs1 : 1 < W.heap.size := World.block_lt_of_cell? _ _ hE1
  refine (refusals_walk a0 a1 a2 a3 a4 a5 a6 a7 a8 a9 W w0 w1 w2 w3 w4 w5 w6 w7 w8 w9 x0 x1 hE0 hE1).mono fun e W' ⟨he, hb⟩ => ?_
  subst he
  exact ⟨_, rfl, _, _, _, [], _, [.cell 0 0, .cell 1 0], hW', trodAll_mk1 (shut_bool Ybad.underlying4 _), (trodAll_cons_mk (shut_int Ybad.underlying5 w0) (trodAll_cons_mk (shut_int Ybad.underlying2 w1) (trodAll_cons_mk (shut_int Ybad.underlying22 w2) (trodAll_cons_mk (shut_int Ybad.underlying2 w3) (trodAll_cons_mk (shut_int Ybad.underlying5 w4) (trodAll_cons_mk (shut_int Ybad.underlying5 w5) (trodAll_cons_mk (shut_int Ybad.underlying5 w6) (trodAll_cons_mk (shut_int Ybad.underlying22 w7) (trodAll_cons_mk (shut_int Ybad.underlying22 w8) (trodAll_cons_mk (shut_int Ybad.underlying2 w9) trodAll_mk0)))))))))),
    vars_read enc (var?_below hb gC hs0 hv0) (var?_below hb gW hs1 hv1) trivial trivial _, hb.frame _, fun h => by cases h⟩

theorem refusals_holds : Rows.LawS4048BRefusalsSaid :=
  OpenClaim.holds_of_wide 4 Ybad.f4 rfl rfl rfl rfl rfl rfl rfl ⟨rfl, rfl, rfl, rfl, rfl⟩ rfl rfl rfl rfl rfl (by kernel_rfl) Ybad.func4 (by kernel_rfl)
    (of_decide_eq_true (by kernel_rfl)) (by unfold Func.isWrapper; rw [if_neg (of_decide_eq_false (by kernel_rfl))]; exact ⟨rfl, rfl⟩)
    (fun os started H enc _ => refusals_lifted os started H enc)

/-- THE TIED CARD. -/
theorem refusals_card : Rows.LawS4048BRefusalsCardSaid :=
  Claim7.holds_tied_plain_at .later [] [.sentinel, .sentinel] true (true, "8730ca12e967d123182b1cbc7282a6a9f19859bf6efa3900bf72e673621b9c3e") true
    refusals_holds (fun _ h => by cases h) (by kernel_rfl) (fun _ h => by cases h) lawS4048BRefusals_row_tie rfl ⟨rfl, rfl⟩ (by kernel_rfl) rfl
    (fun f fn hf hfn => by
      obtain rfl : f = 4 := Option.some.inj ((show Ybad.prog.funcNamed Rows.lawS4048BRefusalsRow.func = some 4 by kernel_rfl).symm.trans hf) |>.symm
      obtain rfl : fn = Ybad.f4 := (Option.some.inj (Ybad.func4.symm.trans hfn)).symm
      exact ⟨by kernel_rfl, fun j t ht => by
        rw [Ybad.params4] at ht
        have hm : t ∈ [5, 2, 22, 2, 5, 5, 5, 22, 22, 2] := by simpa using Array.mem_of_getElem? ht
        have hall : ([5, 2, 22, 2, 5, 5, 5, 22, 22, 2].all fun u => !Ybad.prog.wantsStandIn u) = true := by kernel_rfl
        exact (show Ybad.prog.wantsStandIn t = false by simpa using List.all_eq_true.1 hall t hm)⟩)
    (by kernel_rfl)

end Go.Proofs.YbulkceusDoor
