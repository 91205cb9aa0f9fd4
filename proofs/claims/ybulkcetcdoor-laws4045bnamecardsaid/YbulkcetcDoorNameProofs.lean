/-
  DERIVED. dialog.LawS4045BName: THE ROW's PROOF AND THE TIED CARD.
-/
import Derived.Test.YbulkcetcDoorRows
import Derived.Test.YbulkcetcDoorTie
import Derived.Test.YbulkcetcDoorCards
import Derived.Test.YbulkcetcDoorNameLaid
import Derived.Test.YbulkcetcDoorShelf
import Derived.Lib.AppendIntMem
import Derived.SevenTiedAt
namespace Go.Proofs.YbulkcetcDoor
open Go.ChangeShapes Go.WideShapes Go.ChangeAt Go.WideMaps Go.WideElems Go.RowKit

/-- strconv.Itoa in every world that has grown out of W. -/
theorem itoa_at {W : World} (hT : Lib.TabIs Ybad.prog W nPow .u64 Lib.pow10Tab) (hsz : 10 < W.heap.size) (n : Int) (h0 : -9223372036854775808 ≤ n) (h1 : n ≤ 9223372036854775807) (w' : World) (hb : Below W.heap.size W w') : ItoaAt n w' := by
  have hT' : Lib.TabIs Ybad.prog w' nPow .u64 Lib.pow10Tab := var?_below hb gPow hsz hT
  refine (Ybad.strconv_Itoa n h0 h1 w' hT').mono ?_
  rintro e w2 ⟨rfl, k, os, rfl⟩
  exact ⟨rfl, Lib.below_grow _ _ (Nat.le_refl _) k os⟩

set_option maxHeartbeats 400000 in
/-- EVERY int. -/
theorem law_any (n : Int) (W : World) (h0 : -9223372036854775808 ≤ n) (h1 : n ≤ 9223372036854775807) (hsz : 10 < W.heap.size)
    (hT : Lib.TabIs Ybad.prog W nPow .u64 Lib.pow10Tab) (hN : W.var? Ybad.prog nNames = some #[.string nm0, .string nm1, .string nm2, .string nm3]) :
    Calls Ybad.prog 5 #[.int .i64 n] W fun e w' => e = .returned (.bool true) ∧ Below W.heap.size W w' := by
  by_cases hn : n < 0 ∨ 4 ≤ n
  · exact law_other n W h0 h1 hn (itoa_at hT hsz n h0 h1)
  · have hcases : n = 0 ∨ n = 1 ∨ n = 2 ∨ n = 3 := by omega
    rcases hcases with rfl | rfl | rfl | rfl
    · exact law_0 W (by have := World.var?_cell gNames hN 0; simpa using this)
    · exact law_1 W (by have := World.var?_cell gNames hN 1; simpa using this)
    · exact law_2 W (by have := World.var?_cell gNames hN 2; simpa using this)
    · exact law_3 W (by have := World.var?_cell gNames hN 3; simpa using this)

set_option maxRecDepth 100000 in
theorem lifted (os : Os) (started : os.Started) (H : Type) (enc : TypeId × Value → H) :
    ReturnsInHanded {} Ybad.checked os 5 .any (fun w args => (Rows.lawS4045BNameSpec.pre enc Ybad.prog Ybad.f5 [] false w args ∧ laidMetH Ybad.prog laidB w) ∧ sizedMet enc Ybad.prog Ybad.f5 (OpenSpec.ofChange Rows.lawS4045BNameSpec) false w args)
      (Rows.lawS4045BNameSpec.post enc Ybad.prog Ybad.f5 false true false false) := by
  refine returnsInHanded_of_change_and (C := Ybad.checked) (X := fun w _ => laidMetH Ybad.prog laidB w) (fun _ _ _ hh h => h.of_heap hh) own started (by kernel_rfl) Ybad.func5
    (ChangeSpec.witness_shaped (enc := enc) (C := Ybad.checked) (os := os) (X := fun w _ => laidMetH Ybad.prog laidB w) false (World.doorLaid Ybad.prog 186 os) #[.int .i64 0] 8 rfl (World.shaped_of_RefB (by kernel_rfl) (by kernel_rfl)) (by kernel_rfl) (by kernel_rfl) (by kernel_rfl) (door_met os _)) ?_
  intro W base args ds gs before hval0 hW _ _ hL _
  have hval : ∀ (j : Nat) t v, Ybad.f5.params[j]? = some t → args[j]? = some v → Value.okWide Ybad.prog W .any base t v := hval0
  have hW' := hW
  obtain ⟨p, q, hA0, hV, rfl, hfz, hnd⟩ := hW
  have hA : DataW.TrodAll enc Ybad.prog W 0 (fun _ => true) true Ybad.f5.params.toList args.toList ds p := hA0
  rw [Ybad.params5] at hA hval
  obtain ⟨v0, d0, rfl, rfl, h0⟩ := trodAll_one hA
  obtain ⟨n, rfl, rfl, rfl, wn⟩ := open_int Ybad.underlying3 (hval 0 3 v0 rfl rfl) h0
  obtain ⟨g, t, cs, fuel, d, pv, rfl, hg, ht, hvar, hd, rfl⟩ := trodVars_one hV
  obtain rfl := Option.some.inj (gNames.symm.trans hg)
  obtain rfl := Option.some.inj (tNames.symm.trans ht)
  obtain ⟨hT, hN⟩ := of_laid hL
  clear hA0 hval0
  have hb64 : -9223372036854775808 ≤ n ∧ n ≤ 9223372036854775807 := bounds_i64 wn
  have hsz : 10 < W.heap.size := by
    have hT' := hT
    unfold Lib.TabIs World.var? at hT'
    rw [gPow] at hT'
    simp only [Option.bind_some] at hT'
    rcases Nat.lt_or_ge 10 W.heap.size with h | h
    · exact h
    · rw [Array.getElem?_eq_none h] at hT'
      simp at hT'
  refine (law_any n W hb64.1 hb64.2 hsz hT hN).mono fun e W' ⟨he, hb⟩ => ?_
  subst he
  have hlt : ∀ x ∈ pv, x.block < W.heap.size := fun x hx => hW'.lt x (by simp [hx])
  refine ⟨_, rfl, _, _, _, [], [], MemPlace.row ⟨1, 0, none⟩ cs.size ++ pv, hW', ?_, ?_, ?_, hb.frame _, fun h => by cases h⟩
  · exact trodAll_mk1 (shut_bool Ybad.underlying4 _)
  · exact trodAll_mk1 (shut_int Ybad.underlying3 wn)
  · exact trodVars_mk1 gNames tNames (var?_below hb gNames (by omega) hvar) (DataW.trod_stays (kids_book laidOut (by kernel_rfl)) (book_sized (by kernel_rfl)) (fun h => by cases h) ⟨of_decide_eq_true (by kernel_rfl), book_self 44⟩ hd
      (fun x hx => hb.same (hlt x hx)) (fun x hx => by simpa using hlt x hx))

theorem name_holds : Rows.LawS4045BNameSaid :=
  OpenClaim.holds_of_wide 5 Ybad.f5 rfl rfl rfl rfl rfl rfl rfl ⟨rfl, rfl, rfl, rfl, rfl⟩ rfl rfl rfl rfl rfl (by kernel_rfl) Ybad.func5 (by kernel_rfl)
    (of_decide_eq_true (by kernel_rfl)) (by unfold Func.isWrapper; rw [if_neg (of_decide_eq_false (by kernel_rfl))]; exact ⟨rfl, rfl⟩)
    (fun os started H enc _ => lifted os started H enc)

/-- THE TIED CARD. -/
theorem name_card : Rows.LawS4045BNameCardSaid :=
  Claim7.holds_tied_plain_at .later [] [.data, .data, .data, .data] true (true, "22a318d2ca81fea05d196a8efde9ef9bd67f7f135c406e231108f6e3c13d4a03") true
    name_holds (fun _ h => by cases h) (by kernel_rfl) (fun _ h => by cases h) lawS4045BName_row_tie rfl ⟨rfl, rfl⟩ (by kernel_rfl) rfl
    (fun f fn hf hfn => by
      obtain rfl : f = 5 := Option.some.inj ((show Ybad.prog.funcNamed Rows.lawS4045BNameRow.func = some 5 by kernel_rfl).symm.trans hf) |>.symm
      obtain rfl : fn = Ybad.f5 := (Option.some.inj (Ybad.func5.symm.trans hfn)).symm
      exact ⟨by kernel_rfl, fun j t ht => by
        rw [Ybad.params5] at ht
        have hm : t ∈ [3] := by simpa using Array.mem_of_getElem? ht
        have hall : ([3].all fun u => !Ybad.prog.wantsStandIn u) = true := by kernel_rfl
        exact (show Ybad.prog.wantsStandIn t = false by simpa using List.all_eq_true.1 hall t hm)⟩)
    (by kernel_rfl)

end Go.Proofs.YbulkcetcDoor
