/-
  DERIVED. (chunk.Manifest).Distinct: THE WALK.
-/
import Derived.Test.YbulkcetqProg
import Derived.Test.YbulkcetqAId
import Derived.Test.YbulkcetqADInv
import Derived.WalkKit
import Derived.WalkSpells
import Derived.WalkLawsBesides
import Derived.Deep.DeepCutAuto
import Derived.Deep.CutBlock
namespace Go.Proofs.Ybulkcetq
open Go.RowKit

/-- A slice of n ids, their codes 'cd 0', 'cd 1', .. -/
def IdsOf (w : World) (io : Option Addr) (n : Nat) (cd : Nat → Nat) : Prop := ∀ j, j < n → ∃ b, io = some ⟨b, 0, none⟩ ∧ w.rangeAt b (j * 32) (idC (cd j))

theorem rangeAt_lt {w : World} {b o k : Nat} (h : w.rangeAt b o (idC k)) : b < w.heap.size := World.block_lt_of_cell? w ⟨b, o + 0, none⟩ (h 0 (.int .u8 (k : Int)) rfl)
theorem rangeAt_below {w w' : World} {B b o k : Nat} (h : w.rangeAt b o (idC k)) (hb : Below B w w') (hB : b < B) : w'.rangeAt b o (idC k) := fun j v hv => (hb.cell (p := ⟨b, o + j, none⟩) hB).trans (h j v hv)

/-! ### laws at the operations -/
section
variable {ops : Array Oper} {rest : List Oper} {o : Oper} {a : Act} {Q : Exit → Act → World → Prop}

theorem wpList_look_at (w : World) (hg : o.guard = none) (m x : Operand) (hop : o.op = Op.lookup 79 m x false) {b n : Nat} {vs : Nat → Value} (h : AtAt w b n vs) {k : Nat} (hk : k < 6) {u : Value} (hu : vs k = u)
    (hm : a.eval m = .map (some b)) (hx : a.eval x = .agg (idC k).toArray) (hK : wpList Yba.prog ops Q rest (a.put o.dst u) w) : wpList Yba.prog ops Q (o :: rest) a w := by
  refine wpList_plain hg fun K' hK' => ?_
  have hrun := h.look hk
  unfold idV at hrun
  unfold Oper.wp
  simp [execOp, hop, hm, hx, hrun, Result.andThen, hu]
  exact hK' _ _ hK

theorem wpList_build_id (w : World) (hg : o.guard = none) (x : Operand) (hop : o.op = Op.buildSlice 26 1 #[(0, x)]) (k : Nat) (hx : a.eval x = .agg (idC k).toArray)
    (hK : wpList Yba.prog ops Q rest (a.put o.dst (.slice (some ⟨w.heap.size, 0, none⟩) 1 1)) (w.alloc (.cells (idC k).toArray 28))) : wpList Yba.prog ops Q (o :: rest) a w := by
  refine wpList_plain hg fun K' hK' => ?_
  have hrun := bs_id k w
  unfold Oper.wp execOp
  simp only [hop, List.map_toArray, List.map_cons, List.map_nil, hx, Sem.run_bind, hrun, Result.andThen_ok]
  exact hK' _ _ hK

theorem wpList_entry_at (w : World) (hg : o.guard = none) (m x : Operand) (hop : o.op = Op.mapEntry 79 m x) {b n : Nat} {vs : Nat → Value} (h : AtAt w b n vs) (hn : n < maxLen) {k : Nat} (hk : k < 6) {u : Value} (hu : vs k = u)
    (hm : a.eval m = .map (some b)) (hx : a.eval x = .agg (idC k).toArray)
    (hK : ∀ (st : Nat) (w1 : World), w.grownBy w1 (some b) → w1.heap.size = w.heap.size → Hid (∀ (w2 : World) (v' : Value) (d : DataW Unit) (ps : List MemPlace), w2.heap[b]? = w1.heap[b]? → RS v' = some (d, ps) →
        ∃ w3, (Instr.entryStore 79 (.map (some b)) (.int .i64 (st : Int)) v').run Yba.prog w2 = .ok () w3 ∧ AtAt w3 b (n + 1) (fun j => if k = j then v' else vs j) ∧ w2.grownBy w3 (some b)) →
      wpList Yba.prog ops Q rest (a.put o.dst (.tuple #[u, .int .i64 (st : Int)])) w1) : wpList Yba.prog ops Q (o :: rest) a w := by
  refine wpList_plain hg fun K' hK' => ?_
  obtain ⟨st, w1, hrun, h1, h2, h3⟩ := h.entry hn hk
  unfold idV at hrun
  rw [hu] at hrun
  unfold Oper.wp
  simp [execOp, hop, hm, hx, hrun, Result.andThen]
  exact hK' _ _ (hK st w1 h1 h2 h3)

theorem wpList_entryStore_at (w2 : World) (hg : o.guard = none) (m s x : Operand) (hop : o.op = Op.entryStore 79 m s x) {b st : Nat} {v' : Value} {C : World → Prop}
    (hs : ∃ w3, (Instr.entryStore 79 (.map (some b)) (.int .i64 (st : Int)) v').run Yba.prog w2 = .ok () w3 ∧ C w3)
    (hm : a.eval m = .map (some b)) (hst : a.eval s = .int .i64 (st : Int)) (hx : a.eval x = v') (hK : ∀ w3, C w3 → wpList Yba.prog ops Q rest (a.put o.dst undef) w3) : wpList Yba.prog ops Q (o :: rest) a w2 := by
  refine wpList_plain hg fun K' hK' => ?_
  obtain ⟨w3, hrun, h1⟩ := hs
  unfold Oper.wp
  simp [execOp, hop, hm, hst, hx, hrun, Result.andThen]
  exact hK' _ _ (hK w3 h1)
end

theorem RS_own {w : World} {S e size : Nat} {v : Value} {n : Nat} {xs : List Value} (h : w.ownsRow S e size v n xs) : ∃ d ps, RS v = some (d, ps) := by
  obtain ⟨_, ⟨rfl, _⟩ | ⟨g, cap, cur, rfl, _⟩⟩ := h
  · exact ⟨_, _, rfl⟩
  · exact ⟨_, _, rfl⟩

/-- The id's own block, read by an append. -/
theorem cells_new (w : World) (cs : List Value) (t : TypeId) : ∀ j u, cs[j]? = some u → (w.alloc (.cells cs.toArray t)).cell? ((⟨w.heap.size, 0, none⟩ : Addr).add j) = some u := fun j u hu => by
  rw [Addr.add_mid, Nat.zero_add, World.cell?_alloc_new]
  simpa using hu

theorem info28 : (Yba.prog.info? 28).map (fun i => (i.zero, i.size, i.bytes)) = some (some (.agg zeroC.toArray), 32, 32) := by kernel_rfl
theorem info3 : (Yba.prog.info? 3).map (fun i => (i.zero, i.size, i.bytes)) = some (some (.int .i64 0), 1, 8) := by kernel_rfl

set_option maxRecDepth 100000 in
set_option maxHeartbeats 800000 in
theorem dist_any (w : World) (sz : Int) (io : Option Addr) (n ic : Nat) (cd : Nat → Nat) (hI : IdsOf w io n cd) (hcd : ∀ j, cd j < 6) (hn : n ≤ 1024) :
    Calls Yba.prog 10 #[.agg #[.int .i64 sz, .slice io n ic]] w fun e w' => ∃ v b, e = .returned (.tuple #[v, .map (some b)]) ∧ w'.ownsRow w.heap.size 28 32 v (ddl n cd).length (idsC (ddl n cd)) ∧ Below w.heap.size w w' := by
  have HI : Hid (IdsOf w io n cd) := hI
  clear hI
  obtain ⟨i28, h28, z28, s28, b28⟩ := info_parts info28
  obtain ⟨i3, h3, z3, s3, b3⟩ := info_parts info3
  have HJ : Hid (Yba.prog.info? 28 = some i28 ∧ i28.zero = some (.agg zeroC.toArray) ∧ i28.size = 32 ∧ i28.bytes = 32) := show _ ∧ _ from ⟨h28, z28, s28, b28⟩
  have HJ3 : Hid (Yba.prog.info? 3 = some i3 ∧ i3.zero = some (.int .i64 0) ∧ i3.size = 1 ∧ i3.bytes = 8) := show _ ∧ _ from ⟨h3, z3, s3, b3⟩
  clear h28 z28 s28 b28 h3 z3 s3 b3
  have hmm := @run_makeMap Yba.prog
  have heq : ∀ (x : Option Addr) (l c : Nat) (W : World), (binOp .eql 71 (.slice x l c) (.slice none 0 0)).run Yba.prog W = .ok (.bool x.isNone) W := fun x l c W => Lib.run_eql_slice_nil W 71 3 x l c 0 0 Yba.underlying71
  go_enter Yba.func10, Yba.ntmps10
  go_wp2
  go_loopw [2, 10] (fun v i wr => ∃ (q : Nat) (vs : Nat → Value), q ≤ n ∧ i = .int .i64 q ∧ DInv w wr w.heap.size (w.heap.size + 1) q (ddl q cd) (presC q cd) v vs) (fun _ i _ => n - (intOf i).toNat)
  case atStart =>
    refine ⟨0, fun _ => .slice none 0 0, Nat.zero_le _, rfl, ⟨((Below.refl _ _).alloc (Nat.le_refl _) _).alloc (by simp) _, by omega, World.ownsRow_nil _ _ _ _, ?_, fun _ _ _ => rfl, fun k _ h => by simp [presC] at h, fun k k' _ _ _ h => by simp [presC] at h⟩⟩
    have := AtAt.made (w.alloc (.cells #[.int .i64 sz, .slice io n ic] 31))
    simpa using this
  case round =>
    obtain ⟨q, vs, hq, rfl, hinv⟩ := hrel
    have hS := hinv.bel.size
    by_cases hlt : q < n
    · obtain ⟨b, rfl, hr⟩ := HI.out q hlt
      have HR : Hid (wr.rangeAt b (q * 32) (idC (cd q))) := rangeAt_below hr hinv.bel (rangeAt_lt hr)
      have hlen := ddl_length q cd
      have hc6 := hcd q
      clear hr
      obtain ⟨u, hu⟩ : ∃ u, vs (cd q) = u := ⟨_, rfl⟩
      have hul : (presC q cd (cd q) = false → u = .slice none 0 0) ∧ (presC q cd (cd q) = true → ∃ g l c, u = .slice (some ⟨g, 0, none⟩) l c) := by
        rw [← hu]
        exact ⟨hinv.none_ _ hc6, fun h => by obtain ⟨g, l, c, _, e, _⟩ := hinv.some_ _ hc6 h; exact ⟨g, l, c, e⟩⟩
      have heqU : ∀ W, (binOp .eql 71 u (.slice none 0 0)).run Yba.prog W = .ok (.bool (!presC q cd (cd q))) W := fun W => by
        cases hp : presC q cd (cd q)
        · rw [hul.1 hp]
          exact heq _ _ _ W
        · obtain ⟨g, l, c, e⟩ := hul.2 hp
          rw [e]
          exact heq _ _ _ W
      have hegU : ∀ W, (eqGuard .eql 71 (.tmp 17) (.const (.slice none 0 0)) u (.slice none 0 0)).run Yba.prog W = .ok () W := fun W => by
        cases hp : presC q cd (cd q)
        · rw [hul.1 hp]
          simp [eqGuard]
        · obtain ⟨g, l, c, e⟩ := hul.2 hp
          rw [e]
          simp [eqGuard]
      have HU : Hid (vs (cd q) = u) := hu
      clear hu hul heq
      have tok1 : True := trivial
      have tok2 : True := trivial
      have tok3 : True := trivial
      go_upto_if 18 with (first
        | (have _t := tok1; refine wpList_load_mid (by rfl) 28 (.tmp 13) (by rfl) b (q * 32) (by rfl) (idC (cd q)) _ HR.out Yba.underlying28 rfl (size28'' _) ?_; clear tok1)
        | (have _t := tok2; refine wpList_store_new_id (by rfl) (.tmp 5) (.tmp 14) (by rfl) wr (cd q) (by rfl) (by rfl) (by rfl) ?_; intro w5 hr5 hb5 hlt5; have hinv5 := hinv.below hb5 hS; clear tok2)
        | (have _t := tok3; refine wpList_load_mid (by rfl) 28 (.tmp 5) (by rfl) wr.heap.size 0 (by rfl) (idC (cd q)) _ hr5 Yba.underlying28 rfl (size28'' _) ?_; clear tok3)
        | (at_lookup; refine wpList_look_at _ (by rfl) (.tmp 15) (.tmp 16) (by rfl) hinv5.at_ hc6 HU.out (by rfl) (by rfl) ?_))
      clear heqU hegU
      go_cut [2] (fun v' wx => DInv w wx w.heap.size (w.heap.size + 1) q (ddl (q + 1) cd) (presC q cd) v' vs ∧ wx.rangeAt wr.heap.size 0 (idC (cd q)) ∧ wr.heap.size < wx.heap.size)
      case first =>
        cases hp : presC q cd (cd q)
        · have hd : ddl (q + 1) cd = ddl q cd ++ [cd q] := by rw [ddl, hp]; rfl
          have HD : Hid (ddl (q + 1) cd = ddl q cd ++ [cd q]) := hd
          clear hd
          have tok4 : True := trivial
          have tok5 : True := trivial
          go_wp2_with (first
            | (have _t := tok4; refine wpList_load_mid (by rfl) 28 (.tmp 5) (by rfl) wr.heap.size 0 (by rfl) (idC (cd q)) _ hr5 Yba.underlying28 rfl (size28'' _) ?_; clear tok4)
            | (have _t := tok5; refine wpList_build_id _ (by rfl) (.tmp 20) (by rfl) (cd q) (by rfl) ?_; clear tok5)
            | (at_builtin; refine wpList_append_own _ (by rfl) (.tmp 19) (.tmp 21) 26 (by rfl) w.heap.size 28 i28 (.agg zeroC.toArray) 32 32 Yba.underlying26 HJ.out.1 HJ.out.2.1 HJ.out.2.2.1 HJ.out.2.2.2 (by rfl) (by decide) _ _ _ (by rfl) (hinv5.ids.alloc _) ⟨w5.heap.size, 0, none⟩ 1 1 (idC (cd q)) (by rfl) (by rw [idC_length]) ?c1 (idC_one _) ?c3 ?c4 ?c5 ?_))
          case c1 => exact cells_new w5 (idC (cd q)) 28
          case c3 => unfold maxLen; omega
          case c4 => omega
          case c5 => have := hb5.size; simp; omega
          intro v' w6 hown6 hgrow6 _
          go_wp2
          go_meet
          case rel =>
            rw [HD.out]
            have h5a := hinv5.below ((Below.refl _ _).alloc (Nat.le_refl _) (.cells (idC (cd q)).toArray 28)) (by have := hb5.size; omega)
            refine ⟨h5a.push hgrow6 hown6 (by have := hb5.size; simp; omega), rangeAt_grown (World.rangeAt_alloc hr5 _) hgrow6 (fun e => ?_), by have := hgrow6.size; simp at this; omega⟩
            have := (hinv.ids.lt _ e.symm).2
            omega
        · have hd : ddl (q + 1) cd = ddl q cd := by rw [ddl, hp]; rfl
          have HD : Hid (ddl (q + 1) cd = ddl q cd) := hd
          clear hd
          go_wp2
          go_meet
          case rel =>
            rw [HD.out]
            exact ⟨hinv5, hr5, hlt5⟩
      case rest =>
        clear hinv5 hr5 hb5 hlt5 hinv
        obtain ⟨hinv6, hr6, hlt6⟩ := hcut
        obtain ⟨l, xs, hl, hown⟩ : ∃ l xs, l ≤ q ∧ wc.ownsRow w.heap.size 3 1 u l xs := by
          rw [← HU.out]
          cases hp : presC q cd (cd q)
          · rw [hinv6.none_ _ hc6 hp]
            exact ⟨0, [], Nat.zero_le _, World.ownsRow_nil _ _ _ _⟩
          · obtain ⟨g, l, c, xs, _, ho, hl⟩ := hinv6.some_ _ hc6 hp
            exact ⟨l, xs, hl, ho⟩
        have tok4 : True := trivial
        have tok5 : True := trivial
        have tok6 : True := trivial
        have h6a := hinv6.below ((Below.refl _ _).alloc (Nat.le_refl _) (.cells #[.int .i64 (q : Int)] 3)) (by omega)
        have howna := hown.alloc (.cells #[.int .i64 (q : Int)] 3)
        go_wp2_with (first
          | (have _t := tok4; refine wpList_load_mid (by rfl) 28 (.tmp 5) (by rfl) wr.heap.size 0 (by rfl) (idC (cd q)) _ hr6 Yba.underlying28 rfl (size28'' _) ?_; clear tok4)
          | (have _t := tok5; refine wpList_entry_at _ (by rfl) (.tmp 23) (.tmp 24) (by rfl) h6a.at_ ?_ hc6 HU.out (by rfl) (by rfl) ?_; clear tok5))
        · unfold maxLen; omega
        intro st w7 hg7 hs7 HSt
        have HS7 : Hid (w7.heap.size = (wc.alloc (.cells #[.int .i64 (q : Int)] 3)).heap.size) := show w7.heap.size = (wc.alloc (.cells #[.int .i64 (q : Int)] 3)).heap.size by simpa using hs7
        have hle7 : wc.heap.size < w7.heap.size := by omega
        clear hs7
        have hown7 := howna.kept hg7 (.inr (own_map_ne howna h6a.at_))
        go_wp2_with (at_builtin; refine wpList_append_own_at _ (by rfl) (.tmp 25) (.tmp 27) 71 (by rfl) w.heap.size 3 i3 (.int .i64 0) 1 8 Yba.underlying71 HJ3.out.1 HJ3.out.2.1 HJ3.out.2.2.1 HJ3.out.2.2.2 (by rfl) (by decide) u l xs (by rfl) hown7 ⟨wc.heap.size, 0, none⟩ 1 1 [.int .i64 (q : Int)] (by rfl) rfl ?d1 ?d2 ?d3 ?d4 ?d5 ?_)
        case d1 =>
          intro j x hx
          refine hg7.cell (cells_new wc [.int .i64 (q : Int)] 3 j x hx) ?_
          have := hinv6.at_.lt
          rw [Addr.add_mid]
          simp
          omega
        case d2 => intro x hx; simp at hx; subst hx; rfl
        case d3 => unfold maxLen; omega
        case d4 => omega
        case d5 => omega
        intro v' w8 hown8 hgrow8 _ hloc8
        obtain ⟨d, ps, hRS⟩ := RS_own hown8
        have hblk : w8.heap[w.heap.size + 1]? = w7.heap[w.heap.size + 1]? := hgrow8.block _ (by have := hinv6.at_.lt; omega) (Ne.symm (own_map_ne hown hinv6.at_))
        have hst := HSt.out w8 v' d ps hblk hRS
        go_wp2_with (have _t := tok6; refine wpList_entryStore_at _ (by rfl) (.tmp 23) (.tmp 30) (.tmp 29) (by rfl) hst (by rfl) (by rfl) (by rfl) ?_; clear tok6)
        intro w9 hat9 hgrow9
        have hfin := h6a.put hc6 howna HU.out (by simp; omega) hl hg7 HS7.out hgrow8 hown8 hloc8 hat9 hgrow9
        have hpc : (fun j => presC q cd j || cd q == j) = presC (q + 1) cd := by
          funext j
          rw [presC_succ]
        rw [hpc] at hfin
        have HF : Hid (DInv w w9 w.heap.size (w.heap.size + 1) (q + 1) (ddl (q + 1) cd) (presC (q + 1) cd) u2 (fun j => if cd q = j then v' else vs j)) := hfin
        clear hfin hpc hst hblk hRS hloc8 hgrow8 hown8 hat9 hgrow9 h6a howna hown7 hown
        go_wp2
        go_roundw
        case rel => exact ⟨q + 1, _, by omega, by go_num, HF.out⟩
        case measure => simp [intOf]; omega
    · obtain rfl : n = q := by omega
      go_wp2
      go_ret2
      exact ⟨_, _, rfl, hinv.ids, hinv.bel⟩
end Go.Proofs.Ybulkcetq
