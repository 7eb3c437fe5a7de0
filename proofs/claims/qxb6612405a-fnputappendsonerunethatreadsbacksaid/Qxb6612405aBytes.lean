/-
  THE WALKS OF zzj1Equal AND zzj1Copy.
-/
import Derived.Test.Qxb6612405aReader
import Derived.RegionTactic
import Derived.BigRegion
namespace Go.Proofs.Qxb6612405a
open Go.RowKit

/-- A slice value's elements: n cells behind its address (nothing is known of the address where n = 0), cell i holding 'f i'. -/
def CRow (w : World) (ao : Option Addr) (n : Nat) (f : Nat → Value) : Prop :=
  n ≤ 9223372036854775807 ∧ (n = 0 ∨ ∃ b off, ao = some ⟨b, off, none⟩ ∧ b < w.heap.size ∧ ∀ i, i < n → w.cell? ⟨b, off + i, none⟩ = some (f i))

theorem CRow.later {w w' : World} {ao : Option Addr} {n : Nat} {f : Nat → Value} (h : CRow w ao n f) (hb : Below w.heap.size w w') : CRow w' ao n f := by
  obtain ⟨h0, h⟩ := h
  refine ⟨h0, ?_⟩
  rcases h with h | ⟨b, off, rfl, hlt, hc⟩
  · exact .inl h
  · exact .inr ⟨b, off, rfl, Nat.lt_of_lt_of_le hlt hb.size, fun i hi => cell_later hb (hc i hi)⟩

theorem below_call {w w1 w2 : World} (h1 : Below w.heap.size w w1) (h2 : Below w1.heap.size w1 w2) : Below w.heap.size w w2 := h1.trans (h2.mono h1.size)

set_option maxHeartbeats 1600000 in
/-- zzj1Equal at two slices of the same bytes. -/
theorem equal_any (a b : Option Addr) (n c1 c2 : Nat) (z : Nat → Int) (w : World) (ha : CRow w a n (fun i => .int .u8 (z i))) (hb : CRow w b n (fun i => .int .u8 (z i))) :
    Calls Try.prog 14 #[.slice a n c1, .slice b n c2] w fun e w' => e = .returned (.bool true) ∧ Below w.heap.size w w' := by
  have hn := ha.1
  have HA : Hid (CRow w a n (fun i => .int .u8 (z i))) := ha
  have HB : Hid (CRow w b n (fun i => .int .u8 (z i))) := hb
  clear ha hb
  go_enter Try.func14, Try.ntmps14
  go_wp2
  go_loopw [5] (fun i wr => ∃ k : Nat, k ≤ n ∧ i = .int .i64 k ∧ Below w.heap.size w wr) (fun i _ => n - (intOf i).toNat)
  case atStart => exact ⟨0, Nat.zero_le _, rfl, Below.refl _ _⟩
  case round =>
    obtain ⟨k, hk, rfl, hbel⟩ := hrel
    by_cases hlt : k < n
    · obtain h0 | ⟨g1, o1, rfl, _, hc1⟩ := (CRow.later HA.out hbel).2
      · omega
      obtain h0 | ⟨g2, o2, rfl, _, hc2⟩ := (CRow.later HB.out hbel).2
      · omega
      have q1 := hc1 k hlt
      have q2 := hc2 k hlt
      clear hc1 hc2 HA HB
      have hlt' : (k : Int) < (n : Int) := by omega
      go_wp2
      go_region
      all_goals
        go_wp2
        go_roundw
        case rel => exact ⟨k + 1, by omega, by go_num, hbel.drew⟩
        case measure => simp [intOf]; omega
    · go_wp2
      go_ret
      exact ⟨rfl, hbel⟩

/-- 'make([]byte, n)'. -/
theorem make_bytes (n : Nat) (hn : n ≤ 65536) : ∃ C : Array Value, C.size = n ∧ ∀ w : World, (Instr.makeSlice 22 (.int .i64 (n : Int)) (.int .i64 (n : Int))).run Try.prog w = .ok (.slice (some ⟨w.heap.size, 0, none⟩) n n) (w.alloc (.cells C 5)) := by
  obtain ⟨i0, hi, hz0, hz1, hz2⟩ := info_parts info5
  refine ⟨madeCells (Value.int .u8 0).cells (n * 1), by rw [size_madeCells]; omega, fun w => ?_⟩
  have h := run_make (P := Try.prog) w 22 5 i0 (.int .u8 0) Try.underlying22 hi hz0 .i64 .i64 n n (by omega) (by omega) (by rw [hz2]; omega) (by omega)
  rw [h]
  simp only [Int.toNat_natCast, hz1]

/-- The copying loop's world. -/
def CopyW (w wr : World) (n k : Nat) (z : Nat → Int) : Prop :=
  Below w.heap.size w wr ∧ ∃ cur : Array Value, wr.heap[w.heap.size]? = some (.cells cur 5 (0, 0)) ∧ cur.size = n ∧ ∀ i, i < k → cur[i]? = some (.int .u8 (z i))

theorem CopyW.start (w : World) (C : Array Value) (n : Nat) (hC : C.size = n) (z : Nat → Int) : CopyW w (w.alloc (.cells C 5)) n 0 z :=
  ⟨(Below.refl _ _).alloc (Nat.le_refl _) _, C, heap_alloc_self _ _ _, hC, fun i hi => by omega⟩
theorem CopyW.at {w wr : World} {n k : Nat} {z : Nat → Int} (h : CopyW w wr n k z) (hk : k < n) : ∃ x, wr.cell? ⟨w.heap.size, k, none⟩ = some x ∧ wr.frozen? ⟨w.heap.size, k, none⟩ = false := by
  obtain ⟨h1, cur, h2, h3, h4⟩ := h
  exact ⟨cur[k]'(by omega), by rw [cell_of_heap h2]; exact Array.getElem?_eq_getElem _, frozen_of_heap h2 k⟩
theorem CopyW.store {w wr : World} {n k : Nat} {z : Nat → Int} (h : CopyW w wr n k z) (hk : k < n) : CopyW w (wr.setCell ⟨w.heap.size, k, none⟩ (.int .u8 (z k))) n (k + 1) z := by
  obtain ⟨h1, cur, h2, h3, h4⟩ := h
  refine ⟨h1.setCell (p := ⟨w.heap.size, k, none⟩) (Nat.le_refl _) _, _, heap_setCell_same _ _ _ _ _ _ h2, by simpa using h3, fun i hi => ?_⟩
  rw [Array.getElem?_setIfInBounds]
  by_cases e : k = i
  · subst e; rw [if_pos rfl, if_pos (by omega)]
  · rw [if_neg e]; exact h4 i (by omega)

/-- The bytes z 0, .., z (n - 1). -/
def bytesOf (z : Nat → Int) (n : Nat) : List Int := (List.range n).map z
theorem bytesOf_len (z : Nat → Int) (n : Nat) : (bytesOf z n).length = n := by simp [bytesOf]

theorem CopyW.own {w wr : World} {n : Nat} {z : Nat → Int} (h : CopyW w wr n n z) (hn : n ≤ 65536) : wr.ownsRow w.heap.size 5 1 (.slice (some ⟨w.heap.size, 0, none⟩) n n) n (cells (bytesOf z n)) := by
  obtain ⟨h1, cur, h2, h3, h4⟩ := h
  refine ⟨by simp [cells, bytesOf], .inr ⟨w.heap.size, n, cur, rfl, Nat.le_refl _, h2, Nat.le_refl _, by unfold maxLen; omega, by omega, ?_⟩⟩
  apply List.ext_getElem?
  intro i
  by_cases hi : i < n
  · rw [List.getElem?_take_of_lt (by omega)]
    rw [Array.getElem?_toList, h4 i hi]
    simp [cells, bytesOf, hi]
  · rw [List.getElem?_eq_none (by simp; omega), List.getElem?_eq_none (by simp [cells, bytesOf]; omega)]

set_option maxHeartbeats 1600000 in
/-- zzj1Copy at a slice that is not nil. -/
theorem copy_some (x : Addr) (n c1 : Nat) (z : Nat → Int) (w : World) (hn : n ≤ 65536) (ha : CRow w (some x) n (fun i => .int .u8 (z i))) :
    Calls Try.prog 10 #[.slice (some x) n c1] w fun e w' => e = .returned (.slice (some ⟨w.heap.size, 0, none⟩) n n) ∧ w'.ownsRow w.heap.size 5 1 (.slice (some ⟨w.heap.size, 0, none⟩) n n) n (cells (bytesOf z n)) ∧ Below w.heap.size w w' := by
  obtain ⟨C, hC, hmk⟩ := make_bytes n hn
  have heq := fun w => Lib.run_eql_slice_nil (P := Try.prog) w 22 5 (some x) n c1 0 0 Try.underlying22
  have HC : Hid _ := hC
  have HA : Hid (CRow w (some x) n (fun i => .int .u8 (z i))) := ha
  clear hC ha
  go_enter Try.func10, Try.ntmps10
  go_wp2
  go_loopw [4] (fun i wr => ∃ k : Nat, k ≤ n ∧ i = .int .i64 k ∧ CopyW w wr n k z) (fun i _ => n - (intOf i).toNat)
  case atStart => exact ⟨0, Nat.zero_le _, rfl, CopyW.start w C n HC.out z⟩
  case round =>
    obtain ⟨k, hk, rfl, hW⟩ := hrel
    clear hmk heq HC
    by_cases hlt : k < n
    · obtain h0 | ⟨g1, o1, hx, hg1, hc1⟩ := (CRow.later HA.out hW.1).2
      · omega
      obtain ⟨x0, q2, q3⟩ := hW.at hlt
      have q1 := hc1 k hlt
      cases hx
      clear hc1 HA
      go_wp2
      go_roundw
      case rel => exact ⟨k + 1, by omega, by go_num, hW.store hlt⟩
      case measure => simp [intOf]; omega
    · go_wp2
      go_ret
      have hkn : k = n := by omega
      rw [hkn] at hW
      exact ⟨rfl, hW.own hn, hW.1⟩

/-- zzj1Copy at nil. -/
theorem copy_none (c1 : Nat) (w : World) : Calls Try.prog 10 #[.slice none 0 c1] w fun e w' => e = .returned (.slice none 0 0) ∧ w' = w := by
  have heq := fun w => Lib.run_eql_slice_nil (P := Try.prog) w 22 5 none 0 c1 0 0 Try.underlying22
  go_enter Try.func10, Try.ntmps10
  go_wp2
  go_ret
  exact ⟨rfl, rfl⟩
end Go.Proofs.Qxb6612405a
