/-
  DERIVED: THE SHELF's CONTRACTS AT THIS DUMP, IN PLAIN WORDS (tools/lay-plain.mjs out of 'YbulkceusDoorShelf.lean', which tools/lay-shelf.mjs wrote): THE SAME DECLARATIONS UNDER THE SAME NAMES: 'import', 'namespace', 'open', 'def', 'theorem' AND NOTHING ELSE: no command of the shelf's: FOR A HAND-IN. Each laying: the table of numbers ('.._ren') and one theorem, a field a fact of the dump's own or the kernel's comparison; each contract: ONE APPLICATION.
-/
import Derived.Ground.MnProg
import Derived.Shelf.Bin.LEUint64
import Derived.Shelf.Bin.LEAppendUint64
import Derived.Shelf.Bin.LEAppendUint64Arg
import Derived.Shelf.Bin.LEUint64Panics
import Derived.Shelf.Bin.AppendUvarint
import Derived.Shelf.Bin.AppendVarint
import Derived.Shelf.Bin.Uvarint
import Derived.Shelf.Bin.Varint
import Derived.Shelf.Bin.UvarintEmpty
import Derived.Shelf.Bin.VarintEmpty
import Derived.Shelf.Bin.ReadersZ
import Derived.Shelf.Bin.AppendUvarintArg
import Derived.Shelf.Bin.AppendVarintArg
import Derived.Test.YbulkceusDoorProg
namespace Go.Proofs
open Go.Shelf
def Ybad.laysBin33_ren : Go.Shelf.Ren := ⟨fun | 33 => 13 | n => n, fun | 25 => 37 | 22 => 23 | 33 => 22 | 0 => 0 | 5 => 5 | 45 => 45 | n => n, fun | n => n⟩
theorem Ybad.laysBin33 : Go.Proofs.LaysBin.n33 Ybad.prog Ybad.laysBin33_ren := {
  mixed := by kernel_rfl
  f33 := Ybad.func13.trans (congrArg some (by kernel_rfl))
  t0 := Ybad.underlying0
  a0 := Ybad.isAgg0
  z0 := Ybad.sizeOf0
  v0 := Ybad.zeroValue0
  i0 := by kernel_rfl
  t5 := Ybad.underlying5
  a5 := Ybad.isAgg5
  z5 := Ybad.sizeOf5
  v5 := Ybad.zeroValue5
  i5 := by kernel_rfl
  t22 := Ybad.underlying23
  a22 := Ybad.isAgg23
  z22 := Ybad.sizeOf23
  v22 := Ybad.zeroValue23
  i22 := by kernel_rfl
  t25 := Ybad.underlying37
  a25 := Ybad.isAgg37
  z25 := Ybad.sizeOf37
  v25 := Ybad.zeroValue37
  i25 := by kernel_rfl
  t33 := Ybad.underlying22
  a33 := Ybad.isAgg22
  z33 := Ybad.sizeOf22
  v33 := Ybad.zeroValue22
  i33 := by kernel_rfl
  t45 := Ybad.underlying45
  a45 := Ybad.isAgg45
  z45 := Ybad.sizeOf45
  v45 := Ybad.zeroValue45
  i45 := by kernel_rfl }
open Go.RowKit in
/-- binary.LittleEndian.Uint64: "Uint64 returns the uint64 representation of b[0:8].": THE NUMBER THAT THE FIRST 8 BYTES SPELL, the least byte first ('Lib.leNat'). Of what was there nothing has turned (the receiver, an empty struct, is laid in a new block without cells; the statement's order is drawn). (LAID: no walk: one application.) -/
theorem Ybad.binary_LE_Uint64 (g o n c : Nat) (b0 b1 b2 b3 b4 b5 b6 b7 : UInt8) (w : World) (hn : 8 ≤ n) (c0 : w.cell? ⟨g, o, none⟩ = some (.int .u8 b0.toNat)) (c1 : w.cell? ⟨g, o + 1, none⟩ = some (.int .u8 b1.toNat)) (c2 : w.cell? ⟨g, o + 2, none⟩ = some (.int .u8 b2.toNat)) (c3 : w.cell? ⟨g, o + 3, none⟩ = some (.int .u8 b3.toNat)) (c4 : w.cell? ⟨g, o + 4, none⟩ = some (.int .u8 b4.toNat)) (c5 : w.cell? ⟨g, o + 5, none⟩ = some (.int .u8 b5.toNat)) (c6 : w.cell? ⟨g, o + 6, none⟩ = some (.int .u8 b6.toNat)) (c7 : w.cell? ⟨g, o + 7, none⟩ = some (.int .u8 b7.toNat)) :
    Calls Ybad.prog 13 #[.agg #[], .slice (some ⟨g, o, none⟩) n c] w fun e w' => e = .returned (.int .u64 (Lib.leNat [b0, b1, b2, b3, b4, b5, b6, b7])) ∧ Below w.heap.size w w' := Any.binary_LE_Uint64 Ybad.laysBin33 g o n c b0 b1 b2 b3 b4 b5 b6 b7 w hn c0 c1 c2 c3 c4 c5 c6 c7
def Ybad.laysBin35_ren : Go.Shelf.Ren := ⟨fun | 35 => 9 | n => n, fun | 25 => 37 | 22 => 23 | 33 => 22 | 0 => 0 | 5 => 5 | 45 => 45 | n => n, fun | n => n⟩
theorem Ybad.laysBin35 : Go.Proofs.LaysBin.n35 Ybad.prog Ybad.laysBin35_ren := {
  mixed := by kernel_rfl
  f35 := Ybad.func9.trans (congrArg some (by kernel_rfl))
  t0 := Ybad.underlying0
  a0 := Ybad.isAgg0
  z0 := Ybad.sizeOf0
  v0 := Ybad.zeroValue0
  i0 := by kernel_rfl
  t5 := Ybad.underlying5
  a5 := Ybad.isAgg5
  z5 := Ybad.sizeOf5
  v5 := Ybad.zeroValue5
  i5 := by kernel_rfl
  t22 := Ybad.underlying23
  a22 := Ybad.isAgg23
  z22 := Ybad.sizeOf23
  v22 := Ybad.zeroValue23
  i22 := by kernel_rfl
  t25 := Ybad.underlying37
  a25 := Ybad.isAgg37
  z25 := Ybad.sizeOf37
  v25 := Ybad.zeroValue37
  i25 := by kernel_rfl
  t33 := Ybad.underlying22
  a33 := Ybad.isAgg22
  z33 := Ybad.sizeOf22
  v33 := Ybad.zeroValue22
  i33 := by kernel_rfl
  t45 := Ybad.underlying45
  a45 := Ybad.isAgg45
  z45 := Ybad.sizeOf45
  v45 := Ybad.zeroValue45
  i45 := by kernel_rfl }
open Go.RowKit in
/-- binary.LittleEndian.AppendUint64: "AppendUint64 appends the bytes of v to b and returns the appended slice.": WHAT COMES BACK OWNS b's CELLS AND, BEHIND THEM, v's 8 BYTES, the least first ('Lib.leBytes 8 v'). Below the call's own blocks nothing has turned. (LAID: no walk: one application.) -/
theorem Ybad.binary_LE_AppendUint64 (B n v : Nat) (hv : v < 18446744073709551616) (sv : Value) (xs : List Value) (w : World) (hown : w.ownsRow B 5 1 sv n xs) (hBw : B ≤ w.heap.size) (hlim : n + 8 ≤ 140737488355328) :
    Calls Ybad.prog 9 #[.agg #[], sv, .int .u64 v] w fun e w' => ∃ v', e = .returned v' ∧ w'.ownsRow B 5 1 v' (n + 8) (xs ++ Lib.byteCells (Lib.leBytes 8 v)) ∧ Below B w w' := Any.binary_LE_AppendUint64 Ybad.laysBin35 B n v hv sv xs w hown hBw hlim
open Go.RowKit in
/-- binary.LittleEndian.AppendUint64, b A SLICE THAT CAME IN, holding 'olds': WHERE n + 8 ≤ cap: THE SAME BASE, 8 LONGER; v's bytes are laid in b's spare capacity ('World.setCells'): WHOEVER SHARES THAT MEMORY SEES THEM. WHERE NOT: a slice that owns 'olds' and v's bytes in a new row; of what was there nothing has turned. (LAID: no walk: one application.) -/
theorem Ybad.binary_LE_AppendUint64_arg (g o n cap v : Nat) (hv : v < 18446744073709551616) (olds : List Value) (w : World) (hlo : olds.length = n) (holds : ∀ j u, olds[j]? = some u → w.cell? ⟨g, o + j, none⟩ = some u) (hspare : n + 8 ≤ cap → ∀ j, j < 8 → (w.cell? ⟨g, o + n + j, none⟩).isSome = true ∧ w.frozen? ⟨g, o + n + j, none⟩ = false) (hlim : n + 8 ≤ 140737488355328) :
    Calls Ybad.prog 9 #[.agg #[], .slice (some ⟨g, o, none⟩) n cap, .int .u64 v] w fun e w' =>
      (n + 8 ≤ cap ∧ e = .returned (.slice (some ⟨g, o, none⟩) (n + 8) cap) ∧ w' = ((w.alloc (.cells #[] 37)).alloc (.cells (Lib.byteCells (Lib.leBytes 8 v)).toArray 5)).setCells g (o + n) (Lib.byteCells (Lib.leBytes 8 v))) ∨
      (cap < n + 8 ∧ ∃ v', e = .returned v' ∧ w'.ownsRow (w.heap.size + 2) 5 1 v' (n + 8) (olds ++ Lib.byteCells (Lib.leBytes 8 v)) ∧ Below w.heap.size w w') := Any.binary_LE_AppendUint64_arg Ybad.laysBin35 g o n cap v hv olds w hlo holds hspare hlim
open Go.RowKit in
/-- binary.LittleEndian.Uint64, b SHORTER THAN 8: IT PANICS: Go's 'runtime error: index out of range [7] with length n' ('Lib.boundsPanicked'). THE WORLD: the receiver's new block without cells, and the draw of the panic's flag. (LAID: no walk: one application.) -/
theorem Ybad.binary_LE_Uint64_panics (ao : Option Addr) (n c : Nat) (w : World) (hn : n < 8) (hnil : ao = none → n = 0) :
    Calls Ybad.prog 13 #[.agg #[], .slice ao n c] w fun e w' => Lib.boundsPanicked Ybad.prog 7 n e ∧ w' = (w.alloc (.cells #[] 37)).drew := Any.binary_LE_Uint64_panics Ybad.laysBin33 ao n c w hn hnil
def Ybad.laysBin47_ren : Go.Shelf.Ren := ⟨fun | 47 => 10 | n => n, fun | 22 => 23 | 33 => 22 | 4 => 4 | 5 => 5 | 45 => 45 | n => n, fun | n => n⟩
theorem Ybad.laysBin47 : Go.Proofs.LaysBin.n47 Ybad.prog Ybad.laysBin47_ren := {
  mixed := by kernel_rfl
  f47 := Ybad.func10.trans (congrArg some (by kernel_rfl))
  t4 := Ybad.underlying4
  a4 := Ybad.isAgg4
  z4 := Ybad.sizeOf4
  v4 := Ybad.zeroValue4
  i4 := by kernel_rfl
  t5 := Ybad.underlying5
  a5 := Ybad.isAgg5
  z5 := Ybad.sizeOf5
  v5 := Ybad.zeroValue5
  i5 := by kernel_rfl
  t22 := Ybad.underlying23
  a22 := Ybad.isAgg23
  z22 := Ybad.sizeOf23
  v22 := Ybad.zeroValue23
  i22 := by kernel_rfl
  t33 := Ybad.underlying22
  a33 := Ybad.isAgg22
  z33 := Ybad.sizeOf22
  v33 := Ybad.zeroValue22
  i33 := by kernel_rfl
  t45 := Ybad.underlying45
  a45 := Ybad.isAgg45
  z45 := Ybad.sizeOf45
  v45 := Ybad.zeroValue45
  i45 := by kernel_rfl }
open Go.RowKit in
/-- binary.AppendUvarint: "AppendUvarint appends the varint-encoded form of x, as generated by PutUvarint, to buf and returns the extended buffer.": WHAT COMES BACK OWNS buf's CELLS AND, BEHIND THEM, x's VARINT ('Lib.uvarint x': seven bits a byte, the least first; at most ten bytes). Below the call's own blocks nothing has turned. (LAID: no walk: one application.) -/
theorem Ybad.binary_AppendUvarint (B n x : Nat) (hx : x < 18446744073709551616) (sv : Value) (xs : List Value) (w : World) (hown : w.ownsRow B 5 1 sv n xs) (hBw : B ≤ w.heap.size) (hlim : n + 10 ≤ 140737488355328) :
    Calls Ybad.prog 10 #[sv, .int .u64 x] w fun e w' => ∃ v', e = .returned v' ∧ w'.ownsRow B 5 1 v' (n + (Lib.uvarint x).length) (xs ++ Lib.byteCells (Lib.uvarint x)) ∧ Below B w w' := Any.binary_AppendUvarint Ybad.laysBin47 B n x hx sv xs w hown hBw hlim
def Ybad.laysBin50_ren : Go.Shelf.Ren := ⟨fun | 50 => 8 | 47 => 10 | n => n, fun | 22 => 23 | 2 => 2 | 33 => 22 | 45 => 45 | 4 => 4 | 5 => 5 | n => n, fun | n => n⟩
theorem Ybad.laysBin50 : Go.Proofs.LaysBin.n50 Ybad.prog Ybad.laysBin50_ren := {
  mixed := by kernel_rfl
  f47 := Ybad.func10.trans (congrArg some (by kernel_rfl))
  f50 := Ybad.func8.trans (congrArg some (by kernel_rfl))
  t2 := Ybad.underlying2
  a2 := Ybad.isAgg2
  z2 := Ybad.sizeOf2
  v2 := Ybad.zeroValue2
  i2 := by kernel_rfl
  t4 := Ybad.underlying4
  a4 := Ybad.isAgg4
  z4 := Ybad.sizeOf4
  v4 := Ybad.zeroValue4
  i4 := by kernel_rfl
  t5 := Ybad.underlying5
  a5 := Ybad.isAgg5
  z5 := Ybad.sizeOf5
  v5 := Ybad.zeroValue5
  i5 := by kernel_rfl
  t22 := Ybad.underlying23
  a22 := Ybad.isAgg23
  z22 := Ybad.sizeOf23
  v22 := Ybad.zeroValue23
  i22 := by kernel_rfl
  t33 := Ybad.underlying22
  a33 := Ybad.isAgg22
  z33 := Ybad.sizeOf22
  v33 := Ybad.zeroValue22
  i33 := by kernel_rfl
  t45 := Ybad.underlying45
  a45 := Ybad.isAgg45
  z45 := Ybad.sizeOf45
  v45 := Ybad.zeroValue45
  i45 := by kernel_rfl }
open Go.RowKit in
/-- binary.AppendVarint: "AppendVarint appends the varint-encoded form of x, as generated by PutVarint, to buf and returns the extended buffer.": WHAT COMES BACK OWNS buf's CELLS AND, BEHIND THEM, THE VARINT OF x's ZIG-ZAG ('Lib.uvarint (Lib.zigzag x)': 0, -1, 1, -2 .. go to 0, 1, 2, 3 ..). Below the call's own blocks nothing has turned. (LAID: no walk: one application.) -/
theorem Ybad.binary_AppendVarint (B n : Nat) (x : Int) (h0 : -9223372036854775808 ≤ x) (h1 : x ≤ 9223372036854775807) (sv : Value) (xs : List Value) (w : World) (hown : w.ownsRow B 5 1 sv n xs) (hBw : B ≤ w.heap.size) (hlim : n + 10 ≤ 140737488355328) :
    Calls Ybad.prog 8 #[sv, .int .i64 x] w fun e w' => ∃ v', e = .returned v' ∧ w'.ownsRow B 5 1 v' (n + (Lib.uvarint (Lib.zigzag x)).length) (xs ++ Lib.byteCells (Lib.uvarint (Lib.zigzag x))) ∧ Below B w w' := Any.binary_AppendVarint Ybad.laysBin50 B n x h0 h1 sv xs w hown hBw hlim
def Ybad.laysBin45_ren : Go.Shelf.Ren := ⟨fun | 45 => 14 | n => n, fun | 22 => 23 | 33 => 22 | 3 => 3 | 45 => 45 | 0 => 0 | 5 => 5 | 4 => 4 | n => n, fun | n => n⟩
theorem Ybad.laysBin45 : Go.Proofs.LaysBin.n45 Ybad.prog Ybad.laysBin45_ren := {
  mixed := by kernel_rfl
  f45 := Ybad.func14.trans (congrArg some (by kernel_rfl))
  t0 := Ybad.underlying0
  a0 := Ybad.isAgg0
  z0 := Ybad.sizeOf0
  v0 := Ybad.zeroValue0
  i0 := by kernel_rfl
  t3 := Ybad.underlying3
  a3 := Ybad.isAgg3
  z3 := Ybad.sizeOf3
  v3 := Ybad.zeroValue3
  i3 := by kernel_rfl
  t4 := Ybad.underlying4
  a4 := Ybad.isAgg4
  z4 := Ybad.sizeOf4
  v4 := Ybad.zeroValue4
  i4 := by kernel_rfl
  t5 := Ybad.underlying5
  a5 := Ybad.isAgg5
  z5 := Ybad.sizeOf5
  v5 := Ybad.zeroValue5
  i5 := by kernel_rfl
  t22 := Ybad.underlying23
  a22 := Ybad.isAgg23
  z22 := Ybad.sizeOf23
  v22 := Ybad.zeroValue23
  i22 := by kernel_rfl
  t33 := Ybad.underlying22
  a33 := Ybad.isAgg22
  z33 := Ybad.sizeOf22
  v33 := Ybad.zeroValue22
  i33 := by kernel_rfl
  t45 := Ybad.underlying45
  a45 := Ybad.isAgg45
  z45 := Ybad.sizeOf45
  v45 := Ybad.zeroValue45
  i45 := by kernel_rfl }
open Go.RowKit in
/-- binary.Uvarint: "Uvarint decodes a uint64 from buf and returns that value and the number of bytes read (> 0). If an error occurred, the value is 0 and the number of bytes n is <= 0 meaning: n == 0: buf too small; n < 0: value larger than 64 bits (overflow) and -n is the number of bytes read.": 'Lib.uvarintDec' OF buf's BYTES, both results. The world is as it was. (LAID: no walk: one application.) -/
theorem Ybad.binary_Uvarint (g o n c : Nat) (l : List UInt8) (w : World) (hl : l.length = n) (hcell : ∀ j (hj : j < l.length), w.cell? ⟨g, o + j, none⟩ = some (.int .u8 (l[j]).toNat)) :
    Calls Ybad.prog 14 #[.slice (some ⟨g, o, none⟩) n c] w fun e w' => e = .returned (.tuple #[.int .u64 (Lib.uvarintDec l).1, .int .i64 (Lib.uvarintDec l).2]) ∧ w' = w := Any.binary_Uvarint Ybad.laysBin45 g o n c l w hl hcell
def Ybad.laysBin48_ren : Go.Shelf.Ren := ⟨fun | 48 => 11 | 45 => 14 | n => n, fun | 22 => 23 | 2 => 2 | 3 => 3 | 38 => 43 | 33 => 22 | 45 => 45 | 4 => 4 | 0 => 0 | 5 => 5 | n => n, fun | n => n⟩
theorem Ybad.laysBin48 : Go.Proofs.LaysBin.n48 Ybad.prog Ybad.laysBin48_ren := {
  mixed := by kernel_rfl
  f45 := Ybad.func14.trans (congrArg some (by kernel_rfl))
  f48 := Ybad.func11.trans (congrArg some (by kernel_rfl))
  t0 := Ybad.underlying0
  a0 := Ybad.isAgg0
  z0 := Ybad.sizeOf0
  v0 := Ybad.zeroValue0
  i0 := by kernel_rfl
  t2 := Ybad.underlying2
  a2 := Ybad.isAgg2
  z2 := Ybad.sizeOf2
  v2 := Ybad.zeroValue2
  i2 := by kernel_rfl
  t3 := Ybad.underlying3
  a3 := Ybad.isAgg3
  z3 := Ybad.sizeOf3
  v3 := Ybad.zeroValue3
  i3 := by kernel_rfl
  t4 := Ybad.underlying4
  a4 := Ybad.isAgg4
  z4 := Ybad.sizeOf4
  v4 := Ybad.zeroValue4
  i4 := by kernel_rfl
  t5 := Ybad.underlying5
  a5 := Ybad.isAgg5
  z5 := Ybad.sizeOf5
  v5 := Ybad.zeroValue5
  i5 := by kernel_rfl
  t22 := Ybad.underlying23
  a22 := Ybad.isAgg23
  z22 := Ybad.sizeOf23
  v22 := Ybad.zeroValue23
  i22 := by kernel_rfl
  t33 := Ybad.underlying22
  a33 := Ybad.isAgg22
  z33 := Ybad.sizeOf22
  v33 := Ybad.zeroValue22
  i33 := by kernel_rfl
  t38 := Ybad.underlying43
  a38 := Ybad.isAgg43
  z38 := Ybad.sizeOf43
  v38 := Ybad.zeroValue43
  i38 := by kernel_rfl
  t45 := Ybad.underlying45
  a45 := Ybad.isAgg45
  z45 := Ybad.sizeOf45
  v45 := Ybad.zeroValue45
  i45 := by kernel_rfl }
open Go.RowKit in
/-- binary.Varint: "Varint decodes an int64 from buf and returns that value and the number of bytes read (> 0). If an error occurred, the value is 0 and the number of bytes n is <= 0 ..": 'Lib.varintDec' OF buf's BYTES: what Uvarint decodes, out of the zig-zag ('Lib.unzigzag'); the count as Uvarint's. The world is as it was. (LAID: no walk: one application.) -/
theorem Ybad.binary_Varint (g o n c : Nat) (l : List UInt8) (w : World) (hl : l.length = n) (hcell : ∀ j (hj : j < l.length), w.cell? ⟨g, o + j, none⟩ = some (.int .u8 (l[j]).toNat)) :
    Calls Ybad.prog 11 #[.slice (some ⟨g, o, none⟩) n c] w fun e w' => e = .returned (.tuple #[.int .i64 (Lib.varintDec l).1, .int .i64 (Lib.varintDec l).2]) ∧ w' = w := Any.binary_Varint Ybad.laysBin48 g o n c l w hl hcell
open Go.RowKit in
/-- binary.Uvarint AT A SLICE WITHOUT ELEMENTS, nil too: (0, 0): "buf too small": 'Lib.uvarintDec []'. The world is as it was. (LAID: no walk: one application.) -/
theorem Ybad.binary_Uvarint_empty (ao : Option Addr) (c : Nat) (w : World) :
    Calls Ybad.prog 14 #[.slice ao 0 c] w fun e w' => e = .returned (.tuple #[.int .u64 (Lib.uvarintDec []).1, .int .i64 (Lib.uvarintDec []).2]) ∧ w' = w := Any.binary_Uvarint_empty Ybad.laysBin45 ao c w
open Go.RowKit in
/-- binary.Varint AT A SLICE WITHOUT ELEMENTS, nil too: (0, 0): 'Lib.varintDec []'. The world is as it was. (LAID: no walk: one application.) -/
theorem Ybad.binary_Varint_empty (ao : Option Addr) (c : Nat) (w : World) :
    Calls Ybad.prog 11 #[.slice ao 0 c] w fun e w' => e = .returned (.tuple #[.int .i64 (Lib.varintDec []).1, .int .i64 (Lib.varintDec []).2]) ∧ w' = w := Any.binary_Varint_empty Ybad.laysBin48 ao c w
open Go.RowKit in
/-- binary.LittleEndian.Uint64, ITS PREMISES 'open_ints'' CONCLUSION TO THE LETTER: a slice at WHATEVER address a, the numbers zs that its cells hold: THE NUMBER THAT THE FIRST 8 SPELL ('Lib.leZ'). (LAID: no walk: one application.) -/
theorem Ybad.binary_LE_Uint64_z (a : Addr) (n c : Nat) (zs : List Int) (w : World) (hn : 8 ≤ n) (hl : 8 ≤ zs.length) (hcell : ∀ i, i < zs.length → w.cell? (a.add i) = some (.int .u8 (zs.getD i 0))) (hw : ∀ z ∈ zs, (Lit.int .u8 z).wf = true) :
    Calls Ybad.prog 13 #[.agg #[], .slice (some a) n c] w fun e w' => e = .returned (.int .u64 (Lib.leZ (zs.take 8))) ∧ Below w.heap.size w w' := Any.binary_LE_Uint64_z Ybad.laysBin33 a n c zs w hn hl hcell hw
open Go.RowKit in
/-- binary.AppendUvarint, buf A SLICE THAT CAME IN ('Came W0 ..'), onto which m bytes ('ks') have been appended so far: BEHIND THE CALL: x's VARINT BESIDES ('Lib.uvarint x': at most ten bytes). (LAID: no walk: one application.) -/
theorem Ybad.binary_AppendUvarint_arg (W0 : World) (ao : Option Addr) (b off len cap : Nat) (olds : List Value) (hc : Came W0 1 ao b off len cap olds) (x : Nat) (hx : x < 18446744073709551616) (sv : Value) (m : Nat) (ks : List Value) (w : World) (honto : Onto W0 5 1 ao b off len cap olds w sv m ks) (hlim : len + m + 10 ≤ 140737488355328) :
    Calls Ybad.prog 10 #[sv, .int .u64 x] w fun e w' => ∃ v', e = .returned v' ∧ Onto W0 5 1 ao b off len cap olds w' v' (m + (Lib.uvarint x).length) (ks ++ Lib.byteCells (Lib.uvarint x)) := Any.binary_AppendUvarint_arg Ybad.laysBin47 W0 ao b off len cap olds hc x hx sv m ks w honto hlim
open Go.RowKit in
/-- binary.AppendVarint, buf A SLICE THAT CAME IN, onto which m bytes have been appended so far: BEHIND THE CALL: THE VARINT OF x's ZIG-ZAG BESIDES. (LAID: no walk: one application.) -/
theorem Ybad.binary_AppendVarint_arg (W0 : World) (ao : Option Addr) (b off len cap : Nat) (olds : List Value) (hc : Came W0 1 ao b off len cap olds) (x : Int) (h0 : -9223372036854775808 ≤ x) (h1 : x ≤ 9223372036854775807) (sv : Value) (m : Nat) (ks : List Value) (w : World) (honto : Onto W0 5 1 ao b off len cap olds w sv m ks) (hlim : len + m + 10 ≤ 140737488355328) :
    Calls Ybad.prog 8 #[sv, .int .i64 x] w fun e w' => ∃ v', e = .returned v' ∧ Onto W0 5 1 ao b off len cap olds w' v' (m + (Lib.uvarint (Lib.zigzag x)).length) (ks ++ Lib.byteCells (Lib.uvarint (Lib.zigzag x))) := Any.binary_AppendVarint_arg Ybad.laysBin50 W0 ao b off len cap olds hc x h0 h1 sv m ks w honto hlim
end Go.Proofs
