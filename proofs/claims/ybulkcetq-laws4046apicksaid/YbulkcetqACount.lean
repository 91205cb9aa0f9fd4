/-
  DERIVED. backup.zzs4046acount: PLAIN FUNCTIONS AND THE WALK.
-/
import Derived.Test.YbulkcetqProg
import Derived.WalkKit
import Derived.WalkSpells
import Derived.WalkLawsBesides
namespace Go.Proofs.Ybulkcetq
open Go.RowKit

/-- The code of a byte. -/
def codeN (z : Int) : Nat := (z % 6).toNat
theorem codeN_lt (z : Int) : codeN z < 6 := by unfold codeN; omega

/-- Is code k among the first n? -/
def pres (n : Nat) (Z : Nat → Int) (k : Nat) : Bool := (List.range n).any fun j => codeN (Z j) == k
/-- Is code k held, by the last naming among the first m? -/
def lastv : Nat → (Nat → Int) → (Nat → Bool) → Nat → Bool
  | 0, _, _, _ => false
  | t + 1, Y, Hh, k => if codeN (Y t) = k then Hh t else lastv t Y Hh k
/-- Of the codes below q: present and held; present and not held. -/
def inTo (q n : Nat) (Z : Nat → Int) (m : Nat) (Y : Nat → Int) (Hh : Nat → Bool) : Nat := ((List.range q).filter fun k => pres n Z k && lastv m Y Hh k).length
def outTo (q n : Nat) (Z : Nat → Int) (m : Nat) (Y : Nat → Int) (Hh : Nat → Bool) : Nat := ((List.range q).filter fun k => pres n Z k && !lastv m Y Hh k).length

theorem pres_succ (n : Nat) (Z : Nat → Int) (k : Nat) : pres (n + 1) Z k = (pres n Z k || codeN (Z n) == k) := by
  unfold pres
  rw [List.range_succ, List.any_append]
  simp

theorem filt_succ (q : Nat) (p : Nat → Bool) : ((List.range (q + 1)).filter p).length = ((List.range q).filter p).length + if p q then 1 else 0 := by
  rw [List.range_succ, List.filter_append, List.length_append]
  congr 1
  cases h : p q <;> simp [h]

theorem filt_le (q : Nat) (p : Nat → Bool) : ((List.range q).filter p).length ≤ q := Nat.le_trans (List.length_filter_le _ _) (by simp)

/-- The array 'present' when the first n codes are marked. -/
def presA (n : Nat) (Z : Nat → Int) : Array Value := ((List.range 6).map fun k => Value.bool (pres n Z k)).toArray

theorem presA_at (n : Nat) (Z : Nat → Int) (k : Nat) (h : k < 6) : (presA n Z)[k]? = some (.bool (pres n Z k)) := by
  simp [presA, h]

theorem presA_set (n : Nat) (Z : Nat → Int) : (presA n Z).setIfInBounds (codeN (Z n)) (.bool true) = presA (n + 1) Z := by
  apply Array.ext_getElem?
  intro i
  have hlt := codeN_lt (Z n)
  have hsz : (presA n Z).size = 6 := by simp [presA]
  by_cases hi : i < 6
  · rw [presA_at _ _ _ hi, pres_succ, Array.getElem?_setIfInBounds]
    by_cases e : codeN (Z n) = i
    · subst e
      simp [hsz, hlt]
    · rw [if_neg e, presA_at _ _ _ hi]
      simp [e]
  · rw [Array.getElem?_eq_none (by simp [hsz]; omega), Array.getElem?_eq_none (by simp [presA]; omega)]

/-- 'v is a slice of n one-cell values V 0, V 1, ..' in w. -/
def SlOf (w : World) (ao : Option Addr) (n : Nat) (V : Nat → Value) : Prop := ∀ j, j < n → ∃ b o, ao = some ⟨b, o, none⟩ ∧ w.cell? ⟨b, o + j, none⟩ = some (V j)

theorem SlOf.below {w w' : World} {B : Nat} {ao : Option Addr} {n : Nat} {V : Nat → Value} (h : SlOf w ao n V) (hb : Below B w w') (hB : B = w.heap.size) : SlOf w' ao n V := fun j hj => by
  subst hB
  obtain ⟨b, o, e, hc⟩ := h j hj
  exact ⟨b, o, e, (hb.cell (p := ⟨b, o + j, none⟩) (World.block_lt_of_cell? _ _ hc)).trans hc⟩

set_option maxRecDepth 100000 in
set_option maxHeartbeats 800000 in
theorem count_any (w : World) (mo : Option Addr) (n mc : Nat) (Z : Nat → Int) (io : Option Addr) (m ic : Nat) (Y : Nat → Int) (ho : Option Addr) (hc : Nat) (Hh : Nat → Bool)
    (hM : SlOf w mo n (fun j => .int .u8 (Z j))) (hI : SlOf w io m (fun j => .int .u8 (Y j))) (hH : SlOf w ho m (fun j => .bool (Hh j)))
    (hZ : ∀ j, 0 ≤ Z j ∧ Z j ≤ 255) (hY : ∀ j, 0 ≤ Y j ∧ Y j ≤ 255) (hn : n ≤ 1024) (hm : m ≤ 1024) :
    Calls Yba.prog 7 #[.slice mo n mc, .slice io m ic, .slice ho m hc] w fun e w' =>
      e = .returned (.tuple #[.int .i64 (inTo 6 n Z m Y Hh), .int .i64 (outTo 6 n Z m Y Hh)]) ∧ Below w.heap.size w w' := by
  have HM : Hid (SlOf w mo n (fun j => .int .u8 (Z j))) := hM
  have HI : Hid (SlOf w io m (fun j => .int .u8 (Y j))) := hI
  have HH : Hid (SlOf w ho m (fun j => .bool (Hh j))) := hH
  clear hM hI hH
  go_enter Yba.func7, Yba.ntmps7
  go_wp2
  go_loopw [18] (fun i wr => ∃ q : Nat, q ≤ n ∧ i = .int .i64 q ∧ wr = w.alloc (.cells (presA q Z) 82)) (fun i _ => n - (intOf i).toNat)
  case atStart => exact ⟨0, Nat.zero_le _, rfl, rfl⟩
  case round =>
    obtain ⟨q, hq, rfl, rfl⟩ := hrel
    by_cases hlt : q < n
    · obtain ⟨b, o, rfl, hcel⟩ := HM.out q hlt
      have hz := hZ q
      have hcel' : (w.alloc (.cells (presA q Z) 82)).cell? ⟨b, o + q, none⟩ = some (.int .u8 (Z q)) := by
        rw [World.cell?_alloc_lt _ _ _ (World.block_lt_of_cell? _ _ hcel)]; exact hcel
      have hpa := presA_at q Z (codeN (Z q)) (codeN_lt _)
      unfold codeN at hpa
      go_wp2
      go_roundw
      case rel => exact ⟨q + 1, by omega, by go_num, by rw [← presA_set]; rfl⟩
      case measure => simp [intOf]; omega
    · obtain rfl : n = q := by omega
      go_wp2
      have hbel : Below w.heap.size w (w.alloc (.cells (presA n Z) 82)) := (Below.refl _ _).alloc (Nat.le_refl _) _
      have HP : Hid (∀ k, k < 6 → (w.alloc (.cells (presA n Z) 82)).cell? ⟨w.heap.size, k, none⟩ = some (.bool (pres n Z k))) := fun k hk => by
        rw [World.cell?_alloc_new]
        exact presA_at n Z k hk
      have HI2 : Hid (SlOf (w.alloc (.cells (presA n Z) 82)) io m (fun j => .int .u8 (Y j))) := HI.out.below hbel rfl
      have HH2 : Hid (SlOf (w.alloc (.cells (presA n Z) 82)) ho m (fun j => .bool (Hh j))) := HH.out.below hbel rfl
      clear HI HH HM
      generalize (w.alloc (.cells (presA n Z) 82)) = wp at *
      go_loop [11, 12, 13] (fun a b i => ∃ q : Nat, q ≤ 6 ∧ i = .int .i64 q ∧ a = .int .i64 (inTo q n Z m Y Hh) ∧ b = .int .i64 (outTo q n Z m Y Hh)) (fun _ _ i => 6 - (intOf i).toNat)
      case atStart => exact ⟨0, by omega, rfl, rfl, rfl⟩
      case round =>
        obtain ⟨q, hq, rfl, rfl, rfl⟩ := hrel
        by_cases hlt : q < 6
        · have hpc := HP.out q hlt
          have hsi := filt_succ q (fun k => pres n Z k && lastv m Y Hh k)
          have hso := filt_succ q (fun k => pres n Z k && !lastv m Y Hh k)
          have hli := filt_le q (fun k => pres n Z k && lastv m Y Hh k)
          have hlo := filt_le q (fun k => pres n Z k && !lastv m Y Hh k)
          change inTo (q + 1) n Z m Y Hh = inTo q n Z m Y Hh + _ at hsi
          change outTo (q + 1) n Z m Y Hh = outTo q n Z m Y Hh + _ at hso
          change inTo q n Z m Y Hh ≤ q at hli
          change outTo q n Z m Y Hh ≤ q at hlo
          cases hpq : pres n Z q
          · rw [hpq] at hpc
            simp only [hpq, Bool.false_and] at hsi hso
            have HS : Hid (inTo (q + 1) n Z m Y Hh = inTo q n Z m Y Hh ∧ outTo (q + 1) n Z m Y Hh = outTo q n Z m Y Hh) := show _ ∧ _ from ⟨hsi, hso⟩
            clear hsi hso hpq
            go_wp2
            go_round
            case rel => exact ⟨q + 1, by omega, by go_num, by rw [HS.out.1], by rw [HS.out.2]⟩
            case measure => simp [intOf]; omega
          · rw [hpq] at hpc
            simp only [hpq, Bool.true_and] at hsi hso
            have HSI := (show Hid (inTo (q + 1) n Z m Y Hh = inTo q n Z m Y Hh + if lastv m Y Hh q = true then 1 else 0) from hsi)
            have HSO := (show Hid (outTo (q + 1) n Z m Y Hh = outTo q n Z m Y Hh + if (!lastv m Y Hh q) = true then 1 else 0) from hso)
            clear hsi hso hpq
            go_wp2
            go_loop [14, 15] (fun v i => ∃ t : Nat, t ≤ m ∧ i = .int .i64 t ∧ v = .bool (lastv t Y Hh q)) (fun _ i => m - (intOf i).toNat)
            case atStart => exact ⟨0, by omega, rfl, rfl⟩
            case round =>
              obtain ⟨t, ht, rfl, rfl⟩ := hrel
              by_cases htm : t < m
              · obtain ⟨b, o, rfl, hcel⟩ := HI2.out t htm
                obtain ⟨b2, o2, rfl, hcel2⟩ := HH2.out t htm
                have hy := hY t
                by_cases hcode : codeN (Y t) = q
                · have hb1 : (Y t % 6 == (q : Int)) = true := by
                    unfold codeN at hcode
                    rw [beq_iff_eq]; omega
                  have HL : Hid (lastv (t + 1) Y Hh q = Hh t) := by
                    show lastv (t + 1) Y Hh q = Hh t
                    rw [lastv, if_pos hcode]
                  clear hcode
                  go_wp2
                  go_round
                  case rel => exact ⟨t + 1, by omega, by go_num, by rw [HL.out]⟩
                  case measure => simp [intOf]; omega
                · have hb1 : (Y t % 6 == (q : Int)) = false := by
                    unfold codeN at hcode
                    rw [beq_eq_false_iff_ne]; omega
                  have HL : Hid (lastv (t + 1) Y Hh q = lastv t Y Hh q) := by
                    show lastv (t + 1) Y Hh q = lastv t Y Hh q
                    rw [lastv, if_neg hcode]
                  clear hcode
                  go_wp2
                  go_round
                  case rel => exact ⟨t + 1, by omega, by go_num, by rw [HL.out]⟩
                  case measure => simp [intOf]; omega
              · obtain rfl : m = t := by omega
                cases hlv : lastv m Y Hh q
                · have hsi := HSI.out
                  have hso := HSO.out
                  rw [hlv] at hsi hso
                  have HS : Hid (inTo (q + 1) n Z m Y Hh = inTo q n Z m Y Hh ∧ outTo (q + 1) n Z m Y Hh = outTo q n Z m Y Hh + 1) := show _ ∧ _ from ⟨hsi, hso⟩
                  clear hsi hso HSI HSO
                  go_wp2
                  go_round
                  case rel => exact ⟨q + 1, by omega, by go_num, by rw [HS.out.1], by rw [HS.out.2]; go_num⟩
                  case measure => simp [intOf]; omega
                · have hsi := HSI.out
                  have hso := HSO.out
                  rw [hlv] at hsi hso
                  have HS : Hid (inTo (q + 1) n Z m Y Hh = inTo q n Z m Y Hh + 1 ∧ outTo (q + 1) n Z m Y Hh = outTo q n Z m Y Hh) := show _ ∧ _ from ⟨hsi, hso⟩
                  clear hsi hso HSI HSO
                  go_wp2
                  go_round
                  case rel => exact ⟨q + 1, by omega, by go_num, by rw [HS.out.1]; go_num, by rw [HS.out.2]⟩
                  case measure => simp [intOf]; omega
        · obtain rfl : q = 6 := by omega
          go_wp2
          go_ret2
          exact ⟨rfl, hbel⟩
end Go.Proofs.Ybulkcetq
