/-
  DERIVED. journal.zzs4048benc: THE WALKS, one for each shape.
-/
import Derived.Test.YbulkceusDoorProg
import Derived.Test.YbulkceusDoorShelf
import Derived.Test.YbulkceusDoorPlain
import Derived.WalkKit
import Derived.WalkSpells
import Derived.WalkLawsBesides
import Derived.Deep.DeepCutAuto
import Derived.Deep.CutBlock
namespace Go.Proofs.YbulkceusDoor
open Go.RowKit

theorem info5 : (Ybad.prog.info? 5).map (fun i => (i.zero, i.size, i.bytes)) = some (some (.int .u8 0), 1, 1) := by kernel_rfl

/-- WHAT THE WRITER HANDS BACK: a slice of its own that holds these bytes; of what was there nothing has turned. -/
def Wrote (l : List UInt8) (w : World) (e : Ending) (w' : World) : Prop :=
  ∃ v', e = .returned v' ∧ w'.ownsRow w.heap.size 5 1 v' l.length (Lib.byteCells l) ∧ Below w.heap.size w w'

theorem byteCells_append (a b : List UInt8) : Lib.byteCells (a ++ b) = Lib.byteCells a ++ Lib.byteCells b := by simp [Lib.byteCells]
theorem byteCells_one {n : Nat} (h : n < 256) : Lib.byteCells [n.toUInt8] = [.int .u8 (n : Int)] := by
  simp only [Lib.byteCells, List.map_cons, List.map_nil, toU8_toNat h]

theorem own_is {w : World} {B : Nat} {v : Value} {n m : Nat} {xs ys : List Value} (h : w.ownsRow B 5 1 v n xs) (hn : n = m) (hx : xs = ys) : w.ownsRow B 5 1 v m ys := by
  subst hn; subst hx; exact h

set_option maxRecDepth 100000 in
set_option maxHeartbeats 800000 in
theorem enc0 (cap : Int) (bits : Nat) (ex fl wi st : Value) (w : World) (h0 : -9223372036854775808 ≤ cap) (h1 : cap ≤ 9223372036854775807) (hb : bits < 18446744073709551616) :
    Calls Ybad.prog 5 #[.int .i64 0, .int .i64 cap, .int .u64 bits, ex, fl, wi, st] w (Wrote (hd cap bits) w) := by
  have hu := Lib.uvarint_length64 (zigzag_lt h0 h1)
  have hul : Hid ((hd cap bits).length = (Lib.uvarint (Lib.zigzag cap)).length + 8) := hd_length cap bits
  have H1 := Ybad.binary_AppendVarint w.heap.size 0 cap h0 h1 (.slice none 0 0) [] w (World.ownsRow_nil _ _ _ _) (Nat.le_refl _) (by omega)
  go_enter Ybad.func5, Ybad.ntmps5
  go_wp2_with fail
  refine H1.mono ?_
  clear H1
  rintro e w1 ⟨v1, rfl, ho1, hb1⟩
  go_wp2_with fail
  refine (Ybad.binary_LE_AppendUint64 w.heap.size _ bits hb v1 _ w1 ho1 hb1.size (by omega)).mono ?_
  rintro e w2 ⟨v2, rfl, ho2, hb2⟩
  have HO2 : Hid (w2.ownsRow w.heap.size 5 1 v2 (hd cap bits).length (Lib.byteCells (hd cap bits))) :=
    own_is ho2 (by rw [hul.out]; omega) (by simp only [hd, byteCells_append, List.nil_append])
  have HB2 : Hid (Below w.heap.size w w2) := hb1.trans hb2
  have hsm : (hd cap bits).length ≤ 18 := by rw [hul.out]; omega
  clear ho1 hb1 ho2 hb2 hul hu
  clear hsm
  go_wp2
  go_ret
  exact ⟨v2, rfl, HO2.out, HB2.out⟩

set_option maxRecDepth 100000 in
set_option maxHeartbeats 800000 in
theorem enc1 (cap : Int) (bits : Nat) (ex : Int) (fl : Nat) (wi st : Value) (w : World) (h0 : -9223372036854775808 ≤ cap) (h1 : cap ≤ 9223372036854775807) (hb : bits < 18446744073709551616)
    (e0 : -9223372036854775808 ≤ ex) (e1 : ex ≤ 9223372036854775807) (hf : fl < 256) :
    Calls Ybad.prog 5 #[.int .i64 1, .int .i64 cap, .int .u64 bits, .int .i64 ex, .int .u8 (fl : Int), wi, st] w (Wrote (hd cap bits ++ md ex fl) w) := by
  obtain ⟨i5, h5, z5, s5, b5⟩ := info_parts info5
  have HI : Hid (Ybad.prog.info? 5 = some i5 ∧ i5.zero = some (.int .u8 0) ∧ i5.size = 1 ∧ i5.bytes = 1) := show _ ∧ _ from ⟨h5, z5, s5, b5⟩
  clear h5 z5 s5 b5
  have hu := Lib.uvarint_length64 (zigzag_lt h0 h1)
  have hul : Hid ((hd cap bits).length = (Lib.uvarint (Lib.zigzag cap)).length + 8) := hd_length cap bits
  have H1 := Ybad.binary_AppendVarint w.heap.size 0 cap h0 h1 (.slice none 0 0) [] w (World.ownsRow_nil _ _ _ _) (Nat.le_refl _) (by omega)
  go_enter Ybad.func5, Ybad.ntmps5
  go_wp2_with fail
  refine H1.mono ?_
  clear H1
  rintro e w1 ⟨v1, rfl, ho1, hb1⟩
  go_wp2_with fail
  refine (Ybad.binary_LE_AppendUint64 w.heap.size _ bits hb v1 _ w1 ho1 hb1.size (by omega)).mono ?_
  rintro e w2 ⟨v2, rfl, ho2, hb2⟩
  have HO2 : Hid (w2.ownsRow w.heap.size 5 1 v2 (hd cap bits).length (Lib.byteCells (hd cap bits))) :=
    own_is ho2 (by rw [hul.out]; omega) (by simp only [hd, byteCells_append, List.nil_append])
  have HB2 : Hid (Below w.heap.size w w2) := hb1.trans hb2
  have hsm : (hd cap bits).length ≤ 18 := by rw [hul.out]; omega
  clear ho1 hb1 ho2 hb2 hul hu
  go_wp2_with fail
  refine (Ybad.binary_AppendVarint w.heap.size _ ex e0 e1 v2 _ w2 HO2.out HB2.out.size (by omega)).mono ?_
  rintro e w3 ⟨v3, rfl, ho3, hb3⟩
  have hu3 := Lib.uvarint_length64 (zigzag_lt e0 e1)
  have HO3 : Hid (w3.ownsRow w.heap.size 5 1 v3 ((hd cap bits).length + (Lib.uvarint (Lib.zigzag ex)).length) (Lib.byteCells (hd cap bits) ++ Lib.byteCells (Lib.uvarint (Lib.zigzag ex)))) := ho3
  have HB3 : Hid (Below w.heap.size w w3) := HB2.out.trans hb3
  clear ho3 hb3 HB2 HO2
  generalize hN : (hd cap bits).length + (Lib.uvarint (Lib.zigzag ex)).length = N at HO3
  have hN28 : N ≤ 28 := by omega
  have HN : Hid ((hd cap bits).length + (Lib.uvarint (Lib.zigzag ex)).length = N) := hN
  clear hN hsm hu3
  go_wp2_with (at_builtin; refine wpList_append_own _ rfl (.tmp 28) (.tmp 30) 23 rfl w.heap.size 5 i5 (.int .u8 0) 1 1 Ybad.underlying23 HI.out.1 HI.out.2.1 HI.out.2.2.1 HI.out.2.2.2 rfl (by decide) _ _ _ rfl (HO3.out.alloc _) ⟨w3.heap.size, 0, none⟩ 1 1 [.int .u8 (fl : Int)] rfl rfl ?c1 ?c2 ?c3 ?c4 ?c5 ?_)
  case c1 => exact cell_one_new _ _ _
  case c2 => intro u hu; simp at hu; subst hu; rfl
  case c3 => unfold maxLen; omega
  case c4 => omega
  case c5 => have := HB3.out.size; simp; omega
  intro v4 w4 ho4 hgrow4 _
  have HB4 : Hid (Below w.heap.size w w4) := (HB3.out.alloc HB3.out.size _).grown hgrow4 (by have := HB3.out.size; simp; omega) (fun r hr => (HO3.out.lt r hr).1)
  have HO4 : Hid (w4.ownsRow w.heap.size 5 1 v4 (hd cap bits ++ md ex fl).length (Lib.byteCells (hd cap bits ++ md ex fl))) :=
    own_is ho4 (by rw [← HN.out]; simp [md]; omega) (by simp only [md, byteCells_append, byteCells_one hf])
  have hsm4 : (hd cap bits ++ md ex fl).length ≤ 29 := by
    have e : (hd cap bits ++ md ex fl).length = N + 1 := by rw [← HN.out]; simp [md]; omega
    omega
  clear ho4 hgrow4 HO3 HB3 HN hN28
  clear hsm4
  go_wp2
  go_ret
  exact ⟨v4, rfl, HO4.out, HB4.out⟩

set_option maxRecDepth 100000 in
set_option maxHeartbeats 800000 in
theorem enc2 (cap : Int) (bits : Nat) (ex : Int) (fl wi st : Nat) (w : World) (h0 : -9223372036854775808 ≤ cap) (h1 : cap ≤ 9223372036854775807) (hb : bits < 18446744073709551616)
    (e0 : -9223372036854775808 ≤ ex) (e1 : ex ≤ 9223372036854775807) (hf : fl < 256) (hw : wi < 18446744073709551616) (hs : st < 18446744073709551616) :
    Calls Ybad.prog 5 #[.int .i64 2, .int .i64 cap, .int .u64 bits, .int .i64 ex, .int .u8 (fl : Int), .int .u64 (wi : Int), .int .u64 (st : Int)] w (Wrote (hd cap bits ++ md ex fl ++ tl wi st) w) := by
  obtain ⟨i5, h5, z5, s5, b5⟩ := info_parts info5
  have HI : Hid (Ybad.prog.info? 5 = some i5 ∧ i5.zero = some (.int .u8 0) ∧ i5.size = 1 ∧ i5.bytes = 1) := show _ ∧ _ from ⟨h5, z5, s5, b5⟩
  clear h5 z5 s5 b5
  have hu := Lib.uvarint_length64 (zigzag_lt h0 h1)
  have hul : Hid ((hd cap bits).length = (Lib.uvarint (Lib.zigzag cap)).length + 8) := hd_length cap bits
  have H1 := Ybad.binary_AppendVarint w.heap.size 0 cap h0 h1 (.slice none 0 0) [] w (World.ownsRow_nil _ _ _ _) (Nat.le_refl _) (by omega)
  go_enter Ybad.func5, Ybad.ntmps5
  go_wp2_with fail
  refine H1.mono ?_
  clear H1
  rintro e w1 ⟨v1, rfl, ho1, hb1⟩
  go_wp2_with fail
  refine (Ybad.binary_LE_AppendUint64 w.heap.size _ bits hb v1 _ w1 ho1 hb1.size (by omega)).mono ?_
  rintro e w2 ⟨v2, rfl, ho2, hb2⟩
  have HO2 : Hid (w2.ownsRow w.heap.size 5 1 v2 (hd cap bits).length (Lib.byteCells (hd cap bits))) :=
    own_is ho2 (by rw [hul.out]; omega) (by simp only [hd, byteCells_append, List.nil_append])
  have HB2 : Hid (Below w.heap.size w w2) := hb1.trans hb2
  have hsm : (hd cap bits).length ≤ 18 := by rw [hul.out]; omega
  clear ho1 hb1 ho2 hb2 hul hu
  go_wp2_with fail
  refine (Ybad.binary_AppendVarint w.heap.size _ ex e0 e1 v2 _ w2 HO2.out HB2.out.size (by omega)).mono ?_
  rintro e w3 ⟨v3, rfl, ho3, hb3⟩
  have hu3 := Lib.uvarint_length64 (zigzag_lt e0 e1)
  have HO3 : Hid (w3.ownsRow w.heap.size 5 1 v3 ((hd cap bits).length + (Lib.uvarint (Lib.zigzag ex)).length) (Lib.byteCells (hd cap bits) ++ Lib.byteCells (Lib.uvarint (Lib.zigzag ex)))) := ho3
  have HB3 : Hid (Below w.heap.size w w3) := HB2.out.trans hb3
  clear ho3 hb3 HB2 HO2
  generalize hN : (hd cap bits).length + (Lib.uvarint (Lib.zigzag ex)).length = N at HO3
  have hN28 : N ≤ 28 := by omega
  have HN : Hid ((hd cap bits).length + (Lib.uvarint (Lib.zigzag ex)).length = N) := hN
  clear hN hsm hu3
  go_wp2_with (at_builtin; refine wpList_append_own _ rfl (.tmp 28) (.tmp 30) 23 rfl w.heap.size 5 i5 (.int .u8 0) 1 1 Ybad.underlying23 HI.out.1 HI.out.2.1 HI.out.2.2.1 HI.out.2.2.2 rfl (by decide) _ _ _ rfl (HO3.out.alloc _) ⟨w3.heap.size, 0, none⟩ 1 1 [.int .u8 (fl : Int)] rfl rfl ?c1 ?c2 ?c3 ?c4 ?c5 ?_)
  case c1 => exact cell_one_new _ _ _
  case c2 => intro u hu; simp at hu; subst hu; rfl
  case c3 => unfold maxLen; omega
  case c4 => omega
  case c5 => have := HB3.out.size; simp; omega
  intro v4 w4 ho4 hgrow4 _
  have HB4 : Hid (Below w.heap.size w w4) := (HB3.out.alloc HB3.out.size _).grown hgrow4 (by have := HB3.out.size; simp; omega) (fun r hr => (HO3.out.lt r hr).1)
  have HO4 : Hid (w4.ownsRow w.heap.size 5 1 v4 (hd cap bits ++ md ex fl).length (Lib.byteCells (hd cap bits ++ md ex fl))) :=
    own_is ho4 (by rw [← HN.out]; simp [md]; omega) (by simp only [md, byteCells_append, byteCells_one hf])
  have hsm4 : (hd cap bits ++ md ex fl).length ≤ 29 := by
    have e : (hd cap bits ++ md ex fl).length = N + 1 := by rw [← HN.out]; simp [md]; omega
    omega
  clear ho4 hgrow4 HO3 HB3 HN hN28
  go_wp2_with fail
  refine (Ybad.binary_AppendUvarint w.heap.size _ wi hw v4 _ w4 HO4.out HB4.out.size (by omega)).mono ?_
  rintro e w5 ⟨v5, rfl, ho5, hb5⟩
  have hu5 := Lib.uvarint_length64 hw
  go_wp2_with fail
  refine (Ybad.binary_AppendUvarint w.heap.size _ st hs v5 _ w5 ho5 (HB4.out.trans hb5).size (by omega)).mono ?_
  rintro e w6 ⟨v6, rfl, ho6, hb6⟩
  have HO6 : Hid (w6.ownsRow w.heap.size 5 1 v6 (hd cap bits ++ md ex fl ++ tl wi st).length (Lib.byteCells (hd cap bits ++ md ex fl ++ tl wi st))) :=
    own_is ho6 (by simp [tl]; omega) (by simp only [tl, byteCells_append, List.append_assoc])
  have HB6 : Hid (Below w.heap.size w w6) := (HB4.out.trans hb5).trans hb6
  clear hsm4 ho5 hb5 ho6 hb6 HB4 HO4 hu5
  go_wp2
  go_ret
  exact ⟨v6, rfl, HO6.out, HB6.out⟩

end Go.Proofs.YbulkceusDoor
