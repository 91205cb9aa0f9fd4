/-
  DERIVED. backup.likeliest: PLAIN FUNCTIONS AND THE WALK.
-/
import Derived.Test.YbulkcetqProg
import Derived.Test.YbulkcetqADist
import Derived.WalkKit
import Derived.WalkSpells
import Derived.WalkLawsBesides
import Derived.Deep.DeepCutAuto
import Derived.Deep.CutBlock
import Derived.Maps.RangeWalk
import Derived.Deep.RegionHeld3
import Derived.Deep.DrawnRows
namespace Go.Proofs.Ybulkcetq
open Go.RowKit

/-! ### the counts off the distinct codes -/

theorem presC_lt {n : Nat} {cd : Nat → Nat} (hcd : ∀ j, cd j < 6) {k : Nat} (h : presC n cd k = true) : k < 6 := by
  unfold presC at h
  obtain ⟨j, _, e⟩ := List.any_eq_true.1 h
  rw [← beq_iff_eq.1 e]
  exact hcd j

theorem ddl_perm (n : Nat) (cd : Nat → Nat) (hcd : ∀ j, cd j < 6) : (ddl n cd).Perm ((List.range 6).filter (presC n cd)) := by
  refine (List.perm_ext_iff_of_nodup (ddl_nodup n cd) (List.nodup_range.sublist List.filter_sublist)).2 (fun a => ?_)
  rw [ddl_mem, List.mem_filter, List.mem_range]
  exact ⟨fun h => ⟨presC_lt hcd h, h⟩, fun h => h.2⟩

theorem ddl_in (n : Nat) (Z : Nat → Int) (m : Nat) (Y : Nat → Int) (Hh : Nat → Bool) : ((ddl n (fun j => codeN (Z j))).filter (lastv m Y Hh)).length = inTo 6 n Z m Y Hh := by
  rw [((ddl_perm n (fun j => codeN (Z j)) (fun j => codeN_lt _)).filter (lastv m Y Hh)).length_eq, List.filter_filter]
  unfold inTo
  congr 1
  apply List.filter_congr
  intro k _
  rw [Bool.and_comm]
  rfl

theorem filter_split (p : Nat → Bool) : ∀ l : List Nat, (l.filter p).length + (l.filter fun k => !p k).length = l.length
  | [] => rfl
  | a :: r => by
    have := filter_split p r
    cases h : p a <;> simp [h] <;> omega

theorem ddl_out (n : Nat) (Z : Nat → Int) (m : Nat) (Y : Nat → Int) (Hh : Nat → Bool) : (ddl n (fun j => codeN (Z j))).length = inTo 6 n Z m Y Hh + outTo 6 n Z m Y Hh := by
  have h1 := filter_split (lastv m Y Hh) (ddl n (fun j => codeN (Z j)))
  have h2 : ((ddl n (fun j => codeN (Z j))).filter fun k => !lastv m Y Hh k).length = outTo 6 n Z m Y Hh := by
    rw [((ddl_perm n (fun j => codeN (Z j)) (fun j => codeN_lt _)).filter _).length_eq, List.filter_filter]
    unfold outTo
    congr 1
    apply List.filter_congr
    intro k _
    rw [Bool.and_comm]
    rfl
  rw [ddl_in] at h1
  omega

/-! ### the pick -/

def better (I O : Nat → Nat) (k b : Nat) : Bool := decide (I b < I k) || (decide (I k = I b) && decide (O k < O b))
/-- The best among the first k. -/
def bst (I O : Nat → Nat) : Nat → Nat
  | 0 => 0
  | k + 1 => if better I O k (bst I O k) then k else bst I O k

theorem bst_one (I O : Nat → Nat) : bst I O 1 = 0 := by
  rw [bst, bst]
  split <;> rfl
theorem bst_lt (I O : Nat → Nat) : ∀ k, 1 ≤ k → bst I O k < k
  | 0, h => by omega
  | k + 1, _ => by
    rw [bst]
    split
    · omega
    · by_cases h : k = 0
      · subst h; simp [bst]
      · have := bst_lt I O k (by omega); omega

/-- 'most', 'fewest' behind k rounds. -/
def mst (I O : Nat → Nat) : Nat → Int
  | 0 => -1
  | k + 1 => (I (bst I O (k + 1)) : Int)
def few (I O : Nat → Nat) : Nat → Int
  | 0 => 0
  | k + 1 => (O (bst I O (k + 1)) : Int)

theorem idsC_at : ∀ (D : List Nat) (j : Nat) (_ : j < D.length) (i : Nat) (_ : i < 32), (idsC D)[j * 32 + i]? = (idC (D.getD j 0))[i]?
  | a :: r, 0, _, i, hi => by
    have e : idsC (a :: r) = idC a ++ idsC r := rfl
    rw [e, List.getElem?_append_left (by rw [idC_length]; omega)]
    simp
  | a :: r, j + 1, hj, i, hi => by
    have e : idsC (a :: r) = idC a ++ idsC r := rfl
    rw [e, List.getElem?_append_right (by rw [idC_length]; omega), idC_length, show (j + 1) * 32 + i - 32 = j * 32 + i by omega, idsC_at r j (by simpa using hj) i hi]
    simp

/-- The four cells of a record. -/
def recC (sz : Int) (ro : Option Addr) (L rc : Nat) (nd : ByteArray) : List Value := [.int .i64 sz, .slice ro L rc, .string nd, .map none]


theorem there_below {w w' : World} {B b o n : Nat} (h : w.there b o n) (hb : Below B w w') (hB : b < B) : w'.there b o n := fun j hj => by
  rw [hb.cell (p := ⟨b, o + j, none⟩) hB, hb.frozen (p := ⟨b, o + j, none⟩) hB]
  exact h j hj
theorem there_grown {w w' : World} {row : Option Nat} {b o n : Nat} (h : w.there b o n) (hg : w.grownBy w' row) (hne : some b ≠ row) : w'.there b o n := fun j hj => by
  obtain ⟨h1, h2⟩ := h j hj
  obtain ⟨u, hu⟩ := Option.isSome_iff_exists.1 h1
  have hlt := World.block_lt_of_cell? w ⟨b, o + j, none⟩ hu
  rw [World.cell?_of_block (hg.block b hlt hne), World.frozen?_of_block (hg.block b hlt hne)]
  exact ⟨h1, h2⟩

/-- A slice of ids that the call has made. -/
theorem ids_own {w : World} {S : Nat} {v : Value} {D : List Nat} (h : w.ownsRow S 28 32 v D.length (idsC D)) : ∃ vo vc, v = .slice vo D.length vc ∧ IdsOf w vo D.length (fun j => D.getD j 0) := by
  have h0 := h
  obtain ⟨_, ⟨rfl, hz⟩ | ⟨g, cap, cur, rfl, hb, hh, hl, _, hs, ht⟩⟩ := h
  · exact ⟨none, 0, by rw [hz], fun j hj => by omega⟩
  · refine ⟨_, _, rfl, fun j hj => ⟨g, rfl, fun i v hv => ?_⟩⟩
    have hi : i < 32 := by
      have := (List.getElem?_eq_some_iff.1 hv).1
      rw [idC_length] at this
      exact this
    rw [h0.cellAt (j * 32 + i) (by omega), idsC_at D j hj i hi]
    exact hv

theorem sel_yes {I O : Nat → Nat} {k : Nat} (h : mst I O k < (I k : Int) ∨ ((I k : Int) = mst I O k ∧ (O k : Int) < few I O k)) : bst I O (k + 1) = k := by
  rw [bst]
  cases k with
  | zero => split <;> rfl
  | succ k =>
    rw [if_pos]
    simp only [mst, few] at h
    simp only [better, Bool.or_eq_true, Bool.and_eq_true, decide_eq_true_eq]
    omega

theorem sel_no {I O : Nat → Nat} {k : Nat} (h : ¬ (mst I O k < (I k : Int) ∨ ((I k : Int) = mst I O k ∧ (O k : Int) < few I O k))) : bst I O (k + 1) = bst I O k ∧ mst I O (k + 1) = mst I O k ∧ few I O (k + 1) = few I O k := by
  cases k with
  | zero => simp only [mst, few] at h; omega
  | succ k =>
    have e : bst I O (k + 1 + 1) = bst I O (k + 1) := by
      rw [bst, if_neg]
      simp only [mst, few] at h
      simp only [better, Bool.or_eq_true, Bool.and_eq_true, decide_eq_true_eq]
      omega
    refine ⟨e, ?_, ?_⟩
    · simp only [mst]; rw [e]
    · simp only [few]; rw [e]

theorem recC_one (sz : Int) (ro : Option Addr) (L rc : Nat) (nd : ByteArray) : (recC sz ro L rc nd).toArray.all (·.oneCell') = true :=
  all_oneCell_toArray (fun v hv => by simp [recC] at hv; rcases hv with rfl | rfl | rfl | rfl <;> rfl)
theorem size34 : (Yba.prog.info? 34).map (·.size) = some 4 := by kernel_rfl
theorem take_filter_snoc (D : List Nat) (q : Nat) (hq : q < D.length) (p : Nat → Bool) : ((D.take (q + 1)).filter p).length = ((D.take q).filter p).length + if p (D.getD q 0) then 1 else 0 := by
  rw [List.take_succ_eq_append_getElem hq, List.filter_append, List.length_append]
  congr 1
  have e : D.getD q 0 = D[q] := by simp [hq]
  rw [e]
  cases h : p D[q] <;> simp [h]

theorem wpList_look_named {ops : Array Oper} {rest : List Oper} {o : Oper} {a : Act} {Q : Exit → Act → World → Prop} (w : World) (hg : o.guard = none) (m x : Operand) (hop : o.op = Op.lookup 78 m x false) {b n : Nat} {g : Nat → Bool} (h : NamedAt w b n g) {k : Nat} (hk : k < 6)
    (hm : a.eval m = .map (some b)) (hx : a.eval x = .agg (idC k).toArray) (hK : wpList Yba.prog ops Q rest (a.put o.dst (.bool (g k))) w) : wpList Yba.prog ops Q (o :: rest) a w := by
  refine wpList_plain hg fun K' hK' => ?_
  have hrun := h.look hk
  unfold idV at hrun
  unfold Oper.wp
  simp [execOp, hop, hm, hx, hrun, Result.andThen]
  exact hK' _ _ hK

theorem named_hint (k : Int) (W : World) : (Instr.makeMap 78 (some (.int .i64 k))).run Yba.prog W = .ok (.map (some W.heap.size)) (W.alloc (.map #[] 0)) := by kernel_rfl

theorem IdsOf.below {w w' : World} {B : Nat} {io : Option Addr} {n : Nat} {cd : Nat → Nat} (h : IdsOf w io n cd) (hb : Below B w w') (hB : B = w.heap.size) : IdsOf w' io n cd := fun j hj => by
  subst hB
  obtain ⟨b, e, hr⟩ := h j hj
  exact ⟨b, e, rangeAt_below hr hb (rangeAt_lt hr)⟩

/-- What likeliest is handed. -/
structure LArg (w : World) (Bs N : Nat) (sz : Nat → Int) (ro : Nat → Option Addr) (L rc : Nat → Nat) (nd : Nat → ByteArray) (Z : Nat → Nat → Int) (io : Option Addr) (m : Nat) (Y : Nat → Int) (ho : Option Addr) (Hh : Nat → Bool) : Prop where
  recs : ∀ i, i < N → w.rangeAt Bs (i * 4) (recC (sz i) (ro i) (L i) (rc i) (nd i))
  rows : ∀ i, i < N → IdsOf w (ro i) (L i) (fun j => codeN (Z i j))
  len : ∀ i, i < N → L i ≤ 1024
  ids : IdsOf w io m (fun j => codeN (Y j))
  held : SlOf w ho m (fun j => .bool (Hh j))

theorem rangeAt_any_below {w w' : World} {B b o : Nat} {cs : List Value} (h : w.rangeAt b o cs) (hb : Below B w w') (hB : B = w.heap.size) : w'.rangeAt b o cs := fun j v hv => by
  subst hB
  have := h j v hv
  exact (hb.cell (p := ⟨b, o + j, none⟩) (World.block_lt_of_cell? _ _ this)).trans this

theorem LArg.below {w w' : World} {Bs N : Nat} {sz : Nat → Int} {ro : Nat → Option Addr} {L rc : Nat → Nat} {nd : Nat → ByteArray} {Z : Nat → Nat → Int} {io : Option Addr} {m : Nat} {Y : Nat → Int} {ho : Option Addr} {Hh : Nat → Bool}
    (h : LArg w Bs N sz ro L rc nd Z io m Y ho Hh) (hb : Below w.heap.size w w') : LArg w' Bs N sz ro L rc nd Z io m Y ho Hh :=
  ⟨fun i hi => rangeAt_any_below (h.recs i hi) hb rfl, fun i hi => (h.rows i hi).below hb rfl, h.len, h.ids.below hb rfl, h.held.below hb rfl⟩

set_option maxRecDepth 100000 in
set_option maxHeartbeats 1000000 in
theorem likeliest_any (w : World) (Bs N : Nat) (sz : Nat → Int) (ro : Nat → Option Addr) (L rc : Nat → Nat) (nd : Nat → ByteArray) (Z : Nat → Nat → Int) (io : Option Addr) (m ic : Nat) (Y : Nat → Int) (ho : Option Addr) (hc : Nat) (Hh : Nat → Bool)
    (hA : LArg w Bs N sz ro L rc nd Z io m Y ho Hh) (hN : 1 ≤ N) (hN2 : N ≤ 1024) (hm : m ≤ 1024) (b : Nat) (hb : b = bst (fun i => inTo 6 (L i) (Z i) m Y Hh) (fun i => outTo 6 (L i) (Z i) m Y Hh) N) :
    Calls Yba.prog 6 #[.slice (some ⟨Bs, 0, none⟩) N N, .slice io m ic, .slice ho m hc] w fun e w' =>
      e = .returned (.agg (recC (sz b) (ro b) (L b) (rc b) (nd b)).toArray) ∧ Below w.heap.size w w' := by
  have HB : Hid (b = bst (fun i => inTo 6 (L i) (Z i) m Y Hh) (fun i => outTo 6 (L i) (Z i) m Y Hh) N) := hb
  have HA : Hid (LArg w Bs N sz ro L rc nd Z io m Y ho Hh) := hA
  clear hb hA
  have hmh := named_hint
  go_enter Yba.func6, Yba.ntmps6
  go_wp2
  go_loopw [26] (fun i wr => ∃ q : Nat, q ≤ m ∧ i = .int .i64 q ∧ NamedAt wr (w.heap.size + 1) q (lastv q Y Hh) ∧ Below w.heap.size w wr ∧ Hid (wr.there w.heap.size 0 4)) (fun i _ => m - (intOf i).toNat)
  case atStart =>
    refine ⟨0, Nat.zero_le _, rfl, ?_, ((Below.refl _ _).alloc (Nat.le_refl _) _).alloc (by simp) _, World.there_alloc (there_new w [.int .i64 0, .slice none 0 0, .string ⟨#[]⟩, .map none] 34 4 rfl) _⟩
    have := NamedAt.made (w.alloc (.cells #[.int .i64 0, .slice none 0 0, .string ⟨#[]⟩, .map none] 34))
    have e : lastv 0 Y Hh = fun _ => false := rfl
    rw [e]
    simpa using this
  case round =>
    obtain ⟨q, hq, rfl, hnam, hbel, HT⟩ := hrel
    by_cases hlt : q < m
    · obtain ⟨bi, rfl, hr⟩ := HA.out.ids q hlt
      obtain ⟨bh, oh, rfl, hh⟩ := HA.out.held q hlt
      have HR : Hid (wr.rangeAt bi (q * 32) (idC (codeN (Y q)))) := rangeAt_below hr hbel (rangeAt_lt hr)
      have hh' : wr.cell? ⟨bh, oh + q, none⟩ = some (.bool (Hh q)) := (hbel.cell (p := ⟨bh, oh + q, none⟩) (World.block_lt_of_cell? _ _ hh)).trans hh
      have hbh : bh < w.heap.size := World.block_lt_of_cell? w ⟨bh, oh + q, none⟩ hh
      clear hr hh
      have tok1 : True := trivial
      have tok2 : True := trivial
      go_wp2_with (first
        | (have _t := tok1; refine wpList_load_mid (by rfl) 28 (.tmp 29) (by rfl) bi (q * 32) (by rfl) (idC (codeN (Y q))) _ HR.out Yba.underlying28 rfl (size28'' _) ?_; clear tok1)
        | (have _t := tok2; refine wpList_store_new_id (by rfl) (.tmp 9) (.tmp 30) (by rfl) wr (codeN (Y q)) (by rfl) (by rfl) (by rfl) ?_; intro w5 hr5 hb5 hlt5; clear tok2))
      have hnam5 : NamedAt w5.drew (w.heap.size + 1) q (lastv q Y Hh) := hnam.of_block (hb5.block _ hnam.lt)
      obtain ⟨w6, hrun6, hnam6, hgrow6⟩ := hnam5.put (by unfold maxLen; omega) (codeN_lt (Y q)) (Hh q)
      unfold idV at hrun6
      have hu28 := Yba.underlying28
      have hi28 := size28'' (codeN (Y q))
      have hl28 := idC_length (codeN (Y q))
      have ho28 := idC_one (codeN (Y q))
      have hh5 : w5.cell? ⟨bh, oh + q, none⟩ = some (.bool (Hh q)) := (hb5.cell (p := ⟨bh, oh + q, none⟩) (World.block_lt_of_cell? _ _ hh')).trans hh'
      have HT6 : Hid (w6.there w.heap.size 0 4) := there_grown (w := w5.drew) (there_below (B := wr.heap.size) HT.out hb5.drew (by have := hnam.lt; omega)) hgrow6 (by simp)
      have HN : Hid (NamedAt w6 (w.heap.size + 1) (q + 1) (lastv (q + 1) Y Hh)) := hnam6
      have HG : Hid (w5.drew.grownBy w6 (some (w.heap.size + 1))) := hgrow6
      have HS : Hid (Below w.heap.size w w6) := ((hbel.trans (hb5.mono hbel.size)).drew).grown hgrow6 (by have := hbel.size; have := hb5.size; show w.heap.size ≤ w5.heap.size; omega) (fun j hj => by cases hj; omega)
      have hr6 : w6.rangeAt wr.heap.size 0 (idC (codeN (Y q))) := rangeAt_grown (w := w5.drew) hr5 hgrow6 (fun e => by injection e with e; have := hnam.lt; omega)
      have hh6 : w6.cell? ⟨bh, oh + q, none⟩ = some (.bool (Hh q)) := hgrow6.cell hh5 (by simp; omega)
      clear hnam6 hgrow6 hnam5 hnam hh' hbel HR HA HB
      go_frame
      go_region_held3 (fun w' => w'.rangeAt wr.heap.size 0 (idC (codeN (Y q))) ∧ w'.cell? ⟨bh, oh + q, none⟩ = some (.bool (Hh q))) (first | exact ⟨hr5, hh5⟩ | exact ⟨hr6, hh6⟩) (fail)
      go_wp2
      go_roundw
      case rel => exact ⟨q + 1, by omega, by go_num, HN.out, HS.out, HT6⟩
      case measure => simp [intOf]; omega
    · obtain rfl : m = q := by omega
      have HA2 : Hid (LArg wr Bs N sz ro L rc nd Z io m Y ho Hh) := HA.out.below hbel
      clear HA
      have hS := hbel.size
      have hbm := hnam.lt
      obtain ⟨wo, rfl⟩ : ∃ wo : World, wo = wr := ⟨_, rfl⟩
      obtain ⟨I, hI⟩ : ∃ I : Nat → Nat, I = fun i => inTo 6 (L i) (Z i) m Y Hh := ⟨_, rfl⟩
      obtain ⟨O, hO⟩ : ∃ O : Nat → Nat, O = fun i => outTo 6 (L i) (Z i) m Y Hh := ⟨_, rfl⟩
      have HIJ : Hid (I = (fun i => inTo 6 (L i) (Z i) m Y Hh) ∧ O = fun i => outTo 6 (L i) (Z i) m Y Hh) := show _ ∧ _ from ⟨hI, hO⟩
      rw [← hI, ← hO] at HB
      clear hI hO
      go_wp2
      go_loopw [10, 11, 12, 40] (fun b mo fe i w2 => ∃ k : Nat, k ≤ N ∧ i = .int .i64 k ∧ b = .int .i64 (bst I O k) ∧ mo = .int .i64 (mst I O k) ∧ fe = .int .i64 (few I O k) ∧ Below wo.heap.size wo w2) (fun _ _ _ i _ => N - (intOf i).toNat)
      case atStart => exact ⟨0, by omega, rfl, rfl, rfl, rfl, Below.refl _ _⟩
      case round =>
        obtain ⟨k, hk, rfl, rfl, rfl, rfl, hbel2⟩ := hrel
        have hS2 := hbel2.size
        by_cases hlt : k < N
        · have hrec : wr.rangeAt Bs (k * 4) [.int .i64 (sz k), .slice (ro k) (L k) (rc k), .string (nd k), .map none] := rangeAt_any_below (HA2.out.recs k hlt) hbel2 rfl
          have HR : Hid (wr.rangeAt Bs (k * 4) [.int .i64 (sz k), .slice (ro k) (L k) (rc k), .string (nd k), .map none]) := hrec
          have HRow : Hid (IdsOf wr (ro k) (L k) (fun j => codeN (Z k j))) := (HA2.out.rows k hlt).below hbel2 rfl
          have hLk := HA2.out.len k hlt
          clear hrec
          have tok1 : True := trivial
          go_wp2_with (have _t := tok1; refine wpList_load_mid (by rfl) 34 (.tmp 43) (by rfl) Bs (k * 4) (by rfl) [.int .i64 (sz k), .slice (ro k) (L k) (rc k), .string (nd k), .map none] _ HR.out Yba.underlying34 rfl size34 ?_; clear tok1)
          have hb3 : Below wr.heap.size wr (wr.alloc (.cells #[.int .i64 (sz k), .slice (ro k) (L k) (rc k), .string (nd k), .map none] 34)) := (Below.refl _ _).alloc (Nat.le_refl _) _
          refine (dist_any _ (sz k) (ro k) (L k) (rc k) (fun j => codeN (Z k j)) (HRow.out.below hb3 rfl) (fun j => codeN_lt _) hLk).mono ?_
          rintro e w4 ⟨v, ba, rfl, hown4, hbel4⟩
          have hbel5 : Below wo.heap.size wo w4 := (hbel2.trans (hb3.mono hS2)).trans (hbel4.mono (by simp; omega))
          obtain ⟨vo, vc, rfl, hids⟩ := ids_own hown4
          have hin := ddl_in (L k) (Z k) m Y Hh
          have hout := ddl_out (L k) (Z k) m Y Hh
          have hDl := ddl_length (L k) (fun j => codeN (Z k j))
          have hD6 : ∀ j, (ddl (L k) (fun j => codeN (Z k j))).getD j 0 < 6 := fun j => by
            rw [List.getD_eq_getElem?_getD]
            cases hg : (ddl (L k) (fun j => codeN (Z k j)))[j]? with
            | none => decide
            | some x => exact presC_lt (fun j => codeN_lt _) ((ddl_mem _ _ x).1 (List.mem_of_getElem? hg))
          have hIk : inTo 6 (L k) (Z k) m Y Hh = I k := by rw [HIJ.out.1]
          have hOk : outTo 6 (L k) (Z k) m Y Hh = O k := by rw [HIJ.out.2]
          rw [hIk] at hin hout
          rw [hOk] at hout
          generalize ddl (L k) (fun j => codeN (Z k j)) = D at *
          clear hIk hOk hown4 hbel4 hb3 HRow HR
          have HIN : Hid ((D.filter (lastv m Y Hh)).length = I k) := hin
          have HOUT : Hid (D.length = I k + O k) := hout
          have HID : Hid (IdsOf w4 vo D.length (fun j => D.getD j 0)) := hids
          clear hin hout hids
          go_wp2_with fail
          obtain ⟨wp, rfl⟩ : ∃ wp : World, wp = wr := ⟨_, rfl⟩
          have hS4 := hbel5.size
          go_loopw [17, 53] (fun c j w3 => ∃ q : Nat, q ≤ D.length ∧ j = .int .i64 q ∧ c = .int .i64 (((D.take q).filter (lastv m Y Hh)).length : Int) ∧ Below w4.heap.size w4 w3) (fun _ j _ => D.length - (intOf j).toNat)
          case atStart => exact ⟨0, by omega, rfl, rfl, Below.refl _ _⟩
          case round =>
            obtain ⟨q, hq, rfl, rfl, hbel6⟩ := hrel
            have hS6 := hbel6.size
            have hfl : ((D.take q).filter (lastv m Y Hh)).length ≤ q := Nat.le_trans (List.length_filter_le _ _) (List.length_take_le _ _)
            by_cases hqlt : q < D.length
            · obtain ⟨bd, rfl, hr⟩ := HID.out q hqlt
              have HR : Hid (wr.rangeAt bd (q * 32) (idC (D.getD q 0))) := rangeAt_below hr hbel6 (rangeAt_lt hr)
              have hd6 := hD6 q
              have hsn := take_filter_snoc D q hqlt (lastv m Y Hh)
              generalize D.getD q 0 = kd at *
              clear hr
              have tok1 : True := trivial
              have tok2 : True := trivial
              have tok3 : True := trivial
              go_upto_if 59 with (first
                | (have _t := tok1; refine wpList_load_mid (by rfl) 28 (.tmp 55) (by rfl) bd (q * 32) (by rfl) (idC kd) _ HR.out Yba.underlying28 rfl (size28'' _) ?_; clear tok1)
                | (have _t := tok2; refine wpList_store_new_id (by rfl) (.tmp 19) (.tmp 56) (by rfl) wr kd (by rfl) (by rfl) (by rfl) ?_; intro w5 hr5 hb5 hlt5; have hnam5 : NamedAt w5 (w.heap.size + 1) m (lastv m Y Hh) := hnam.of_block ((hb5.block _ (by omega)).trans ((hbel6.block _ (by omega)).trans (hbel5.block _ (by omega)))); clear tok2)
                | (have _t := tok3; refine wpList_load_mid (by rfl) 28 (.tmp 19) (by rfl) wr.heap.size 0 (by rfl) (idC kd) _ hr5 Yba.underlying28 rfl (size28'' _) ?_; clear tok3)
                | (at_lookup; refine wpList_look_named _ (by rfl) (.tmp 57) (.tmp 58) (by rfl) hnam5 hd6 (by rfl) (by rfl) ?_))
              have hbel7 : Below w4.heap.size w4 w5 := hbel6.trans (hb5.mono hS6)
              clear hnam5 hr5 hb5
              go_frame
              cases hlv : lastv m Y Hh kd
              · rw [hlv] at hsn
                have HS : Hid (((D.take (q + 1)).filter (lastv m Y Hh)).length = ((D.take q).filter (lastv m Y Hh)).length) := hsn
                clear hsn
                go_wp2
                go_roundw
                case rel => exact ⟨q + 1, by omega, by go_num, by rw [HS.out], hbel7⟩
                case measure => simp [intOf]; omega
              · rw [hlv] at hsn
                have HS : Hid (((D.take (q + 1)).filter (lastv m Y Hh)).length = ((D.take q).filter (lastv m Y Hh)).length + 1) := hsn
                clear hsn
                go_wp2
                go_roundw
                case rel => exact ⟨q + 1, by omega, by go_num, by rw [HS.out]; go_num, hbel7⟩
                case measure => simp [intOf]; omega
            · obtain rfl : q = D.length := by omega
              have hbel7 : Below wo.heap.size wo wr := hbel5.trans (hbel6.mono hS4)
              have e1 : ((D.take D.length).filter (lastv m Y Hh)).length = I k := by rw [List.take_length]; exact HIN.out
              rw [e1]
              have hdl := HOUT.out
              have hIb : I k ≤ 1024 := by omega
              have hOb : O k ≤ 1024 := by omega
              have HDL : Hid (D.length = I k + O k) := hdl
              rw [hdl]
              clear hdl e1 hfl HIN HOUT HID hq hqlt
              by_cases h1 : mst I O k < (I k : Int)
              · have HY : Hid (bst I O (k + 1) = k) := sel_yes (.inl h1)
                go_wp2
                go_roundw
                case rel => exact ⟨k + 1, by omega, by go_num, by rw [HY.out], by rw [mst, HY.out], by rw [few, HY.out]; go_num, hbel7⟩
                case measure => simp [intOf]; omega
              · by_cases h2 : (I k : Int) = mst I O k
                · have hb2 : ((I k : Int) == mst I O k) = true := beq_iff_eq.2 h2
                  by_cases h3 : (O k : Int) < few I O k
                  · have HY : Hid (bst I O (k + 1) = k) := sel_yes (.inr ⟨h2, h3⟩)
                    have h3' : (I k : Int) + (O k : Int) - (I k : Int) < few I O k := by omega
                    clear h2
                    go_wp2
                    go_roundw
                    case rel => exact ⟨k + 1, by omega, by go_num, by rw [HY.out], by rw [mst, HY.out], by rw [few, HY.out]; go_num, hbel7⟩
                    case measure => simp [intOf]; omega
                  · have HY := (show Hid (bst I O (k + 1) = bst I O k ∧ mst I O (k + 1) = mst I O k ∧ few I O (k + 1) = few I O k) from sel_no (fun h => by rcases h with h | h; exact h1 h; exact h3 h.2))
                    have h3' : ¬ (I k : Int) + (O k : Int) - (I k : Int) < few I O k := by omega
                    clear h2
                    go_wp2
                    go_roundw
                    case rel => exact ⟨k + 1, by omega, by go_num, by rw [HY.out.1], by rw [HY.out.2.1], by rw [HY.out.2.2], hbel7⟩
                    case measure => simp [intOf]; omega
                · have hb2 : ((I k : Int) == mst I O k) = false := beq_eq_false_iff_ne.2 h2
                  have HY := (show Hid (bst I O (k + 1) = bst I O k ∧ mst I O (k + 1) = mst I O k ∧ few I O (k + 1) = few I O k) from sel_no (fun h => by rcases h with h | h; exact h1 h; exact h2 h.1))
                  go_wp2
                  go_roundw
                  case rel => exact ⟨k + 1, by omega, by go_num, by rw [HY.out.1], by rw [HY.out.2.1], by rw [HY.out.2.2], hbel7⟩
                  case measure => simp [intOf]; omega
        · obtain rfl : N = k := by omega
          have hbb := bst_lt I O N hN
          have hbE : bst I O N = b := HB.out.symm
          rw [hbE] at hbb ⊢
          have hrec : wr.rangeAt Bs (b * 4) [.int .i64 (sz b), .slice (ro b) (L b) (rc b), .string (nd b), .map none] := rangeAt_any_below (HA2.out.recs b hbb) hbel2 rfl
          have HT2 : Hid (wr.there w.heap.size 0 4) := there_below HT.out hbel2 (by omega)
          have hbel8 : Below w.heap.size w wr := hbel.trans (hbel2.mono hS)
          clear hbE HB
          have HR : Hid (wr.rangeAt Bs (b * 4) [.int .i64 (sz b), .slice (ro b) (L b) (rc b), .string (nd b), .map none]) := hrec
          clear hrec
          have hone := recC_one (sz b) (ro b) (L b) (rc b) (nd b)
          unfold recC at hone
          have HO1 : Hid (([.int .i64 (sz b), .slice (ro b) (L b) (rc b), .string (nd b), .map none] : List Value).toArray.all (·.oneCell') = true) := hone
          clear hone
          have tok1 : True := trivial
          have tok2 : True := trivial
          go_wp2_with (first
            | (have _t := tok1; refine wpList_load_mid (by rfl) 34 (.tmp 86) (by rfl) Bs (b * 4) (by rfl) [.int .i64 (sz b), .slice (ro b) (L b) (rc b), .string (nd b), .map none] _ HR.out Yba.underlying34 rfl size34 ?_; clear tok1)
            | (have _t := tok2; refine wpList_store_mid (by rfl) 34 (.tmp 6) (.tmp 87) (by rfl) w.heap.size 0 [.int .i64 (sz b), .slice (ro b) (L b) (rc b), .string (nd b), .map none].toArray (by rfl) (by rfl) HT2.out size34 HO1.out ?_; clear tok2))
          exact bodyPost_ret (v := .agg (recC (sz b) (ro b) (L b) (rc b) (nd b)).toArray) (results_cell_mid Yba.results6 _ _ w.heap.size 0 _ _ rfl (World.rangeAt_setCells_same _ _ _ _ HT2.out) Yba.underlying34 rfl size34) rfl ⟨rfl, below_setCells hbel8 (Nat.le_refl _) _⟩
end Go.Proofs.Ybulkcetq
