/-
  THE WALK OF runes.
-/
import Derived.Test.Qxb6612722aRows
import Derived.WalkKit
import Derived.WalkSpells
import Derived.WalkSmall
import Derived.Deep.QuietTactic
import Derived.BigQuiet
import Derived.Laws.EntriesVeiled
import Derived.Laws.Pointers
namespace Go.Proofs.Qxb6612722a
open Go.RowKit

/-- A slice value's elements: n cells behind its address (nothing is known of the address where n = 0), cell i holding 'f i'. -/
def CRow (w : World) (ao : Option Addr) (n : Nat) (f : Nat → Value) : Prop :=
  n ≤ 9223372036854775807 ∧ (n = 0 ∨ ∃ b off, ao = some ⟨b, off, none⟩ ∧ b < w.heap.size ∧ ∀ i, i < n → w.cell? ⟨b, off + i, none⟩ = some (f i))

theorem CRow.later {w w' : World} {ao : Option Addr} {n : Nat} {f : Nat → Value} (h : CRow w ao n f) (hb : Below w.heap.size w w') : CRow w' ao n f := by
  obtain ⟨h0, h⟩ := h
  refine ⟨h0, ?_⟩
  rcases h with h | ⟨b, off, rfl, hlt, hc⟩
  · exact .inl h
  · exact .inr ⟨b, off, rfl, Nat.lt_of_lt_of_le hlt hb.size, fun i hi => cell_later hb (hc i hi)⟩

theorem below_call {w w1 w2 : World} (h1 : Below w.heap.size w w1) (h2 : Below w1.heap.size w1 w2) : Below w.heap.size w w2 := h1.trans (h2.mono h1.size)

/-- Does the byte begin a character? -/
def starts (x : Int) : Bool := decide (x < 128) || decide (192 ≤ x)

/-- How many of the first k bytes begin a character. -/
def cnt (z : Nat → Int) : Nat → Nat
  | 0 => 0
  | k + 1 => cnt z k + if starts (z k) then 1 else 0

theorem cnt_le (z : Nat → Int) (k : Nat) : cnt z k ≤ k := by
  induction k with
  | zero => exact Nat.le_refl _
  | succ j ih => simp only [cnt]; split <;> omega
theorem cnt_yes {z : Nat → Int} {k : Nat} (h : starts (z k) = true) : cnt z (k + 1) = cnt z k + 1 := by simp [cnt, h]
theorem cnt_no {z : Nat → Int} {k : Nat} (h : starts (z k) = false) : cnt z (k + 1) = cnt z k := by simp [cnt, h]

set_option maxHeartbeats 800000 in
/-- runes. -/
theorem runes_any (a : Option Addr) (n cap : Nat) (z : Nat → Int) (w : World) (hr : CRow w a n (fun i => .int .u8 (z i))) :
    Calls Try.prog 13 #[.slice a n cap] w fun e w' => e = .returned (.int .i64 (cnt z n)) ∧ w' = w := by
  obtain ⟨hn, hr⟩ := hr
  have HR : Hid _ := hr
  clear hr
  go_enter Try.func13, Try.ntmps13
  go_wp2
  go_loop [3, 8] (fun t i => ∃ (k c : Nat), k ≤ n ∧ c ≤ k ∧ i = .int .i64 k ∧ t = .int .i64 c ∧ Hid (c = cnt z k)) (fun _ i => n - (intOf i).toNat)
  case atStart => exact ⟨0, 0, Nat.zero_le _, Nat.zero_le _, rfl, rfl, rfl⟩
  case round =>
    obtain ⟨k, c, hk, hc, rfl, rfl, HC⟩ := hrel
    by_cases hlt : k < n
    · obtain h0 | ⟨b, off, rfl, hb, hc1⟩ := HR.out
      · omega
      have q1 := hc1 k hlt
      clear hc1 HR hb
      by_cases d1 : z k < 128
      · go_wp2
        go_round
        case rel => exact ⟨k + 1, c + 1, by omega, by omega, by go_num, by go_num, by rw [HC.out]; exact (cnt_yes (by simp [starts, d1])).symm⟩
        case measure => simp [intOf]; omega
      · by_cases d2 : 192 ≤ z k
        · have b1 : decide (z k < 128) = false := by simp; omega
          go_wp2
          go_round
          case rel => exact ⟨k + 1, c + 1, by omega, by omega, by go_num, by go_num, by rw [HC.out]; exact (cnt_yes (by simp [starts, d2])).symm⟩
          case measure => simp [intOf]; omega
        · have b1 : decide (z k < 128) = false := by simp; omega
          have b2 : decide (192 ≤ z k) = false := by simp; omega
          go_wp2
          go_round
          case rel => exact ⟨k + 1, c, by omega, by omega, by go_num, rfl, by rw [HC.out]; exact (cnt_no (by simp [starts, b1, b2])).symm⟩
          case measure => simp [intOf]; omega
    · go_wp2
      go_ret
      rw [show n = k from by omega, ← HC.out]
      exact ⟨rfl, rfl⟩
end Go.Proofs.Qxb6612722a
