/-
  DERIVED. protocol.LawS4047BMessage: ITS SMALL FUNCTIONS.
-/
import Derived.Test.YbulkceueProg
import Derived.Test.YbulkceuePlain
import Derived.Test.YbulkceueShelf
import Derived.WalkKit
import Derived.WalkSpells
import Derived.WalkLawsBesides
import Derived.BigQuiet
import Derived.WalkSmall
import Derived.Lib.EndianMore
namespace Go.Proofs.Ybulkceue
open Go.RowKit

/-- A slice of n one-cell values. -/
def SlOf (w : World) (ao : Option Addr) (n : Nat) (V : Nat → Value) : Prop := ∀ j, j < n → ∃ b o, ao = some ⟨b, o, none⟩ ∧ w.cell? ⟨b, o + j, none⟩ = some (V j)

theorem SlOf.below {w w' : World} {B : Nat} {ao : Option Addr} {n : Nat} {V : Nat → Value} (h : SlOf w ao n V) (hb : Below B w w') (hB : B = w.heap.size) : SlOf w' ao n V := fun j hj => by
  subst hB
  obtain ⟨b, o, e, hc⟩ := h j hj
  exact ⟨b, o, e, (hb.cell (p := ⟨b, o + j, none⟩) (World.block_lt_of_cell? _ _ hc)).trans hc⟩

/-- The kind of piece x. -/
def kd (kl : Nat) (Z : Nat → Int) (x : Nat) : Int := if kl = 0 then 0 else Z (x % kl) % 4

theorem kd_bd (kl : Nat) (Z : Nat → Int) (x : Nat) : 0 ≤ kd kl Z x ∧ kd kl Z x ≤ 3 := by
  unfold kd
  split <;> omega

set_option maxRecDepth 100000 in
set_option maxHeartbeats 800000 in
theorem kind_any (w : World) (ka : Option Addr) (kl kc : Nat) (Z : Nat → Int) (x : Nat) (hK : SlOf w ka kl (fun j => .int .u8 (Z j))) (hZ : ∀ j, 0 ≤ Z j ∧ Z j ≤ 255) (hl : kl ≤ 1024) (hx : x < 18446744073709551616) :
    Calls Yba.prog 7 #[.slice ka kl kc, .int .u64 (x : Int)] w fun e w' => e = .returned (.int .u8 (kd kl Z x)) ∧ w' = w := by
  by_cases h0 : kl = 0
  · have e : kd kl Z x = 0 := by simp [kd, h0]
    rw [e]
    have hz1 : ((kl : Int) == 0) = true := by rw [beq_iff_eq]; omega
    clear h0 hK
    go_enter Yba.func7, Yba.ntmps7
    go_wp2
    go_ret
    exact ⟨rfl, rfl⟩
  · have e : kd kl Z x = Z (x % kl) % 4 := by simp [kd, h0]
    rw [e]
    have hz1 : ((kl : Int) == 0) = false := by rw [beq_eq_false_iff_ne]; omega
    have hm : x % kl < kl := Nat.mod_lt _ (by omega)
    obtain ⟨b, o, rfl, hcel⟩ := hK (x % kl) hm
    have hz := hZ (x % kl)
    have hmi : (x : Int) % (kl : Int) = ((x % kl : Nat) : Int) := by omega
    generalize x % kl = y at *
    clear hK h0
    go_enter Yba.func7, Yba.ntmps7
    go_wp2
    go_ret
    exact ⟨rfl, rfl⟩

/-- 'm + x', a uint64. -/
def ad (m x : Nat) : Nat := (m + x) % 18446744073709551616
theorem ad_lt (m x : Nat) : ad m x < 18446744073709551616 := Nat.mod_lt _ (by decide)

/-- v is the piece of a number: k its kind, y what it names if it is numbered; its cells lie behind block lo. -/
def PieceOk (w : World) (lo : Nat) (v : Value) (k : Int) (y : Nat) : Prop :=
  (k = 0 ∧ ∃ b o c, v = .slice (some ⟨b, o, none⟩) 2 c ∧ lo < b ∧ 2 ≤ c ∧ c ≤ maxLen ∧ w.cell? ⟨b, o, none⟩ = some (.int .u8 0)) ∨
  (k = 1 ∧ ∃ b o c, v = .slice (some ⟨b, o, none⟩) 9 c ∧ lo < b ∧ 9 ≤ c ∧ c ≤ maxLen ∧ w.cell? ⟨b, o, none⟩ = some (.int .u8 1) ∧ ∀ j u, (Lib.byteCells (Lib.beBytes 8 y))[j]? = some u → w.cell? ⟨b, o + 1 + j, none⟩ = some u) ∨
  (k ≠ 0 ∧ k ≠ 1 ∧ ∃ ao c, v = .slice ao 0 c)

theorem PieceOk.keep {w w' : World} {lo : Nat} {v : Value} {k : Int} {y : Nat} (h : PieceOk w lo v k y) (hk : ∀ b o u, lo < b → w.cell? ⟨b, o, none⟩ = some u → w'.cell? ⟨b, o, none⟩ = some u) : PieceOk w' lo v k y := by
  rcases h with ⟨h0, b, o, c, e, hb, hc, hm, h1⟩ | ⟨h0, b, o, c, e, hb, hc, hm, h1, h2⟩ | h
  · exact .inl ⟨h0, b, o, c, e, hb, hc, hm, hk _ _ _ hb h1⟩
  · exact .inr (.inl ⟨h0, b, o, c, e, hb, hc, hm, hk _ _ _ hb h1, fun j u hj => hk _ _ _ hb (h2 j u hj)⟩)
  · exact .inr (.inr h)

theorem PieceOk.below {w w' : World} {lo : Nat} {v : Value} {k : Int} {y : Nat} (h : PieceOk w lo v k y) (hb : Below w.heap.size w w') : PieceOk w' lo v k y :=
  h.keep (fun b o _ _ hc => (hb.cell (p := ⟨b, o, none⟩) (World.block_lt_of_cell? _ _ hc)).trans hc)

set_option maxRecDepth 100000 in
set_option maxHeartbeats 800000 in
theorem piece_any (w : World) (ka : Option Addr) (kl kc : Nat) (Z : Nat → Int) (m x : Nat) (hK : SlOf w ka kl (fun j => .int .u8 (Z j))) (hZ : ∀ j, 0 ≤ Z j ∧ Z j ≤ 255) (hl : kl ≤ 1024) (hx : x < 18446744073709551616) (lo : Nat) (hlo : lo < w.heap.size) :
    Calls Yba.prog 4 #[.slice ka kl kc, .int .u64 (m : Int), .int .u64 (x : Int)] w fun e w' => ∃ v, e = .returned v ∧ PieceOk w' lo v (kd kl Z x) (ad m x) ∧ Below w.heap.size w w' := by
  have hk := kind_any w ka kl kc Z x hK hZ hl hx
  have hbd := kd_bd kl Z x
  generalize kd kl Z x = k at *
  have HK := (show Hid (Calls Yba.prog 7 #[.slice ka kl kc, .int .u64 (x : Int)] w fun e w' => e = .returned (.int .u8 k) ∧ w' = w) from hk)
  clear hk hK hZ
  have hc : k = 0 ∨ k = 1 ∨ k = 2 ∨ k = 3 := by omega
  rcases hc with rfl | rfl | rfl | rfl
  · go_enter Yba.func4, Yba.ntmps4
    go_wp2_with fail
    refine HK.out.mono ?_
    rintro e w1 ⟨rfl, rfl⟩
    go_wp2_with fail
    go_ret
    refine ⟨_, rfl, .inl ⟨rfl, _, _, _, rfl, hlo, by omega, by decide, ?_⟩, (Below.refl _ _).alloc (Nat.le_refl _) _⟩
    simp
  · have had : IntKind.u64.wrap ((m : Int) + (x : Int)) = ((ad m x : Nat) : Int) := by
      have : IntKind.u64.wrap ((m : Int) + (x : Int)) = ((m : Int) + (x : Int)) % 18446744073709551616 := rfl
      rw [this]; unfold ad; omega
    have hadl := ad_lt m x
    go_enter Yba.func4, Yba.ntmps4
    go_wp2_with fail
    refine HK.out.mono ?_
    rintro e w1 ⟨rfl, rfl⟩
    go_wp2_with fail
    have hown : (w1.alloc (.cells #[.int .u8 1] 5)).ownsRow w1.heap.size 5 1 (.slice (some ⟨w1.heap.size, 0, none⟩) 1 1) 1 [.int .u8 1] := World.ownsRow_lit w1 #[.int .u8 1] 1 (Nat.le_refl _) (by decide) rfl
    refine (Yba.binary_BE_AppendUint64 w1.heap.size 1 (ad m x) hadl _ _ _ hown (by simp) (by decide)).mono ?_
    rintro e w2 ⟨v, rfl, hown2, hb2⟩
    go_wp2_with fail
    go_ret
    have h0 := hown2
    obtain ⟨_, ⟨_, hz⟩ | ⟨g, cap, cur, rfl, hg, _, hcap, hmax, _⟩⟩ := hown2
    · omega
    · have hcell : ∀ j, j < 9 → w2.cell? ⟨g, j, none⟩ = ((Value.int .u8 1) :: Lib.byteCells (Lib.beBytes 8 (ad m x)))[j]? := fun j hj => h0.cellAt j (by omega)
      refine ⟨_, rfl, .inr (.inl ⟨rfl, _, _, _, rfl, by omega, hcap, hmax, hcell 0 (by decide), fun j u hj => ?_⟩), ((Below.refl _ _).alloc (Nat.le_refl _) _).trans hb2⟩
      have hj8 : j < 8 := by
        have := (List.getElem?_eq_some_iff.1 hj).1
        rwa [Lib.byteCells_length, Lib.beBytes_length] at this
      have := hcell (1 + j) (by omega)
      rw [Nat.add_comm 1 j, List.getElem?_cons_succ, hj] at this
      rw [Nat.zero_add, Nat.add_comm 1 j]
      exact this
  · go_enter Yba.func4, Yba.ntmps4
    go_wp2_with fail
    refine HK.out.mono ?_
    rintro e w1 ⟨rfl, rfl⟩
    go_wp2_with fail
    go_ret
    exact ⟨_, rfl, .inr (.inr ⟨by decide, by decide, _, _, rfl⟩), (Below.refl _ _).alloc (Nat.le_refl _) _⟩
  · go_enter Yba.func4, Yba.ntmps4
    go_wp2_with fail
    refine HK.out.mono ?_
    rintro e w1 ⟨rfl, rfl⟩
    go_wp2_with fail
    go_ret
    exact ⟨_, rfl, .inr (.inr ⟨by decide, by decide, _, _, rfl⟩), Below.refl _ _⟩

/-- What a piece names. -/
def wantOf (k : Int) (x y : Nat) : Nat := if k = 0 then x else if k = 1 then y else 0

set_option maxRecDepth 100000 in
set_option maxHeartbeats 800000 in
theorem want_any (w : World) (ka : Option Addr) (kl kc : Nat) (Z : Nat → Int) (m x : Nat) (hK : SlOf w ka kl (fun j => .int .u8 (Z j))) (hZ : ∀ j, 0 ≤ Z j ∧ Z j ≤ 255) (hl : kl ≤ 1024) (hx : x < 18446744073709551616) :
    Calls Yba.prog 6 #[.slice ka kl kc, .int .u64 (m : Int), .int .u64 (x : Int)] w fun e w' => e = .returned (.int .u64 (wantOf (kd kl Z x) x (ad m x))) ∧ w' = w := by
  have hk := kind_any w ka kl kc Z x hK hZ hl hx
  have hbd := kd_bd kl Z x
  generalize kd kl Z x = k at *
  have HK := (show Hid (Calls Yba.prog 7 #[.slice ka kl kc, .int .u64 (x : Int)] w fun e w' => e = .returned (.int .u8 k) ∧ w' = w) from hk)
  clear hk hK hZ
  have had : IntKind.u64.wrap ((m : Int) + (x : Int)) = ((ad m x : Nat) : Int) := by
    have : IntKind.u64.wrap ((m : Int) + (x : Int)) = ((m : Int) + (x : Int)) % 18446744073709551616 := rfl
    rw [this]; unfold ad; omega
  have hc : k = 0 ∨ k = 1 ∨ k = 2 ∨ k = 3 := by omega
  rcases hc with rfl | rfl | rfl | rfl
  all_goals
    go_enter Yba.func6, Yba.ntmps6
    go_wp2_with fail
    refine HK.out.mono ?_
    rintro e w1 ⟨rfl, rfl⟩
    go_wp2_with fail
    go_ret
    first | exact ⟨rfl, rfl⟩ | exact ⟨by rw [← had]; rfl, rfl⟩ | exact ⟨by simp [had, wantOf], rfl⟩

set_option maxRecDepth 100000 in
set_option maxHeartbeats 800000 in
theorem max_any (w : World) (up ab : Nat) (hu : up < 300) (ha : ab < 18446744073709551616) :
    Calls Yba.prog 9 #[.agg #[.int .u64 (up : Int), .int .u64 (ab : Int)]] w fun e w' => e = .returned (.int .u64 ((up + hi ab 64 : Nat) : Int)) ∧ Below w.heap.size w w' := by
  rw [hi_bitLen ab ha]
  have hb := bitLen_le64 ab ha
  by_cases h0 : ab = 0
  · subst h0
    rw [bitLen_zero]
    go_enter Yba.func9, Yba.ntmps9
    go_wp2
    go_ret
    exact ⟨rfl, (Below.refl _ _).alloc (Nat.le_refl _) _⟩
  · have hz1 : ((ab : Int) == 0) = false := by rw [beq_eq_false_iff_ne]; omega
    have HL := (show Hid (∀ w', Calls Yba.prog 14 #[.int .u64 (ab : Int)] w' fun e w'' => e = .returned (.int .i64 (64 - (Lib.bitLen ab : Int))) ∧ w'' = w') from fun w' => Yba.bits_LeadingZeros64 (ab : Int) w' (by omega) (by omega))
    generalize Lib.bitLen ab = L at *
    go_enter Yba.func9, Yba.ntmps9
    go_wp2_with fail
    go_quiet (first | (go_at_call 14; exact Calls.quiet_of_same (HL.out _)))
    go_wp2_with fail
    go_ret
    exact ⟨congrArg (fun z => Ending.returned (.int .u64 z)) (by omega : (up : Int) + (64 - (64 - (L : Int))) = ((up + L : Nat) : Int)), below_drewN ((Below.refl _ _).alloc (Nat.le_refl _) _) _⟩

/-- Is x in the set (up, ab)? -/
def hasN (up ab x : Nat) : Bool := decide (x ≤ up) || (decide (x ≤ up + 64) && bt ab (x - up - 1))

theorem bit_ne (x i : Nat) (h : x < 18446744073709551616) : (bits .and .u64 ((x : Int) / 2 ^ i) 1 != 0) = bt x i := by
  rw [bne, bit_test x i h]
  simp

set_option maxRecDepth 100000 in
set_option maxHeartbeats 800000 in
theorem has_any (w : World) (up ab x : Nat) (hu : up < 300) (ha : ab < 18446744073709551616) (hx : x < 18446744073709551616) :
    Calls Yba.prog 10 #[.agg #[.int .u64 (up : Int), .int .u64 (ab : Int)], .int .u64 (x : Int)] w fun e w' => e = .returned (.bool (hasN up ab x)) ∧ Below w.heap.size w w' := by
  by_cases h1 : x ≤ up
  · have e : hasN up ab x = true := by simp [hasN, h1]
    rw [e]
    go_enter Yba.func10, Yba.ntmps10
    go_wp2
    go_ret
    exact ⟨rfl, (Below.refl _ _).alloc (Nat.le_refl _) _⟩
  · by_cases h2 : x ≤ up + 64
    · have e : hasN up ab x = bt ab (x - up - 1) := by simp [hasN, h1, h2]
      rw [e]
      have hbt := bit_ne ab (x - up - 1) ha
      have e1 : ((x : Int) - (up : Int) - 1).toNat = x - up - 1 := by omega
      go_enter Yba.func10, Yba.ntmps10
      go_wp2
      go_ret
      exact ⟨rfl, (Below.refl _ _).alloc (Nat.le_refl _) _⟩
    · have e : hasN up ab x = false := by simp [hasN, h1, h2]
      rw [e]
      go_enter Yba.func10, Yba.ntmps10
      go_wp2
      go_ret
      exact ⟨rfl, (Below.refl _ _).alloc (Nat.le_refl _) _⟩
end Go.Proofs.Ybulkceue
