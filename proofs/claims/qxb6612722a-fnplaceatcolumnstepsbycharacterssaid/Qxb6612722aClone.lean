/-
  THE WALK OF zzClone.
-/
import Derived.Test.Qxb6612722aRunes
import Derived.OwnWalk
namespace Go.Proofs.Qxb6612722a
open Go.RowKit

theorem info5 : (Try.prog.info? 5).map (fun i => (i.zero, i.size, i.bytes)) = some (some (.int .u8 0), 1, 1) := by kernel_rfl

theorem heap_alloc_self (w : World) (cs : Array Value) (t : TypeId) : (w.alloc (.cells cs t)).heap[w.heap.size]? = some (.cells cs t (0, 0)) := by
  show (w.heap.push (.cells cs t))[w.heap.size]? = _
  simp
theorem lt_of_heap {w : World} {g : Nat} {o : Obj} (h : w.heap[g]? = some o) : g < w.heap.size := by
  rcases Nat.lt_or_ge g w.heap.size with h' | h'
  · exact h'
  · rw [Array.getElem?_eq_none h'] at h; cases h
theorem cell_of_heap {w : World} {g : Nat} {cur : Array Value} {t : TypeId} (h : w.heap[g]? = some (.cells cur t (0, 0))) (j : Nat) : w.cell? ⟨g, j, none⟩ = cur[j]? := by
  simp [World.cell?, h]
theorem frozen_of_heap {w : World} {g : Nat} {cur : Array Value} {t : TypeId} (h : w.heap[g]? = some (.cells cur t (0, 0))) (j : Nat) : w.frozen? ⟨g, j, none⟩ = false :=
  frozen_of_row w g j cur t h

/-- 'make([]byte, n)'. -/
theorem make_bytes (n : Nat) (hn : n ≤ 1048576) : ∃ C : Array Value, C.size = n ∧ ∀ w : World, (Instr.makeSlice 22 (.int .i64 (n : Int)) (.int .i64 (n : Int))).run Try.prog w = .ok (.slice (some ⟨w.heap.size, 0, none⟩) n n) (w.alloc (.cells C 5)) := by
  obtain ⟨i0, hi, hz0, hz1, hz2⟩ := info_parts info5
  refine ⟨madeCells (Value.int .u8 0).cells (n * 1), by rw [size_madeCells]; omega, fun w => ?_⟩
  have h := run_make (P := Try.prog) w 22 5 i0 (.int .u8 0) Try.underlying22 hi hz0 .i64 .i64 n n (by omega) (by omega) (by rw [hz2]; omega) (by omega)
  rw [h]
  simp only [Int.toNat_natCast, hz1]

/-- The copying loop's world. -/
def CopyW (w wr : World) (n k : Nat) (z : Nat → Int) : Prop :=
  Below w.heap.size w wr ∧ ∃ cur : Array Value, wr.heap[w.heap.size]? = some (.cells cur 5 (0, 0)) ∧ cur.size = n ∧ ∀ i, i < k → cur[i]? = some (.int .u8 (z i))

theorem CopyW.start (w : World) (C : Array Value) (n : Nat) (hC : C.size = n) (z : Nat → Int) : CopyW w (w.alloc (.cells C 5)) n 0 z :=
  ⟨(Below.refl _ _).alloc (Nat.le_refl _) _, C, heap_alloc_self _ _ _, hC, fun i hi => by omega⟩
theorem CopyW.at {w wr : World} {n k : Nat} {z : Nat → Int} (h : CopyW w wr n k z) (hk : k < n) : ∃ x, wr.cell? ⟨w.heap.size, k, none⟩ = some x ∧ wr.frozen? ⟨w.heap.size, k, none⟩ = false := by
  obtain ⟨h1, cur, h2, h3, h4⟩ := h
  exact ⟨cur[k]'(by omega), by rw [cell_of_heap h2]; exact Array.getElem?_eq_getElem _, frozen_of_heap h2 k⟩
theorem CopyW.store {w wr : World} {n k : Nat} {z : Nat → Int} (h : CopyW w wr n k z) (hk : k < n) : CopyW w (wr.setCell ⟨w.heap.size, k, none⟩ (.int .u8 (z k))) n (k + 1) z := by
  obtain ⟨h1, cur, h2, h3, h4⟩ := h
  refine ⟨h1.setCell (p := ⟨w.heap.size, k, none⟩) (Nat.le_refl _) _, _, heap_setCell_same _ _ _ _ _ _ h2, by simpa using h3, fun i hi => ?_⟩
  rw [Array.getElem?_setIfInBounds]
  by_cases e : k = i
  · subst e; rw [if_pos rfl, if_pos (by omega)]
  · rw [if_neg e]; exact h4 i (by omega)

set_option maxHeartbeats 1600000 in
/-- zzClone at a slice that is not nil: a new block that holds the same bytes. -/
theorem clone_some (x : Addr) (n c1 : Nat) (z : Nat → Int) (w : World) (hn : n ≤ 1048576) (ha : CRow w (some x) n (fun i => .int .u8 (z i))) :
    Calls Try.prog 6 #[.slice (some x) n c1] w fun e w' => ∃ g, e = .returned (.slice (some ⟨g, 0, none⟩) n n) ∧ g < w'.heap.size ∧ (∀ i, i < n → w'.cell? ⟨g, i, none⟩ = some (.int .u8 (z i))) ∧ Below w.heap.size w w' := by
  obtain ⟨C, hC, hmk⟩ := make_bytes n hn
  have heq := fun w => Lib.run_eql_slice_nil (P := Try.prog) w 22 5 (some x) n c1 0 0 Try.underlying22
  have HC : Hid _ := hC
  have HA : Hid (CRow w (some x) n (fun i => .int .u8 (z i))) := ha
  clear hC ha
  go_enter Try.func6, Try.ntmps6
  go_wp2
  go_loopw [4] (fun i wr => ∃ k : Nat, k ≤ n ∧ i = .int .i64 k ∧ CopyW w wr n k z) (fun i _ => n - (intOf i).toNat)
  case atStart => exact ⟨0, Nat.zero_le _, rfl, CopyW.start w C n HC.out z⟩
  case round =>
    obtain ⟨k, hk, rfl, hW⟩ := hrel
    clear hmk heq HC
    by_cases hlt : k < n
    · obtain h0 | ⟨g1, o1, hx, hg1, hc1⟩ := (CRow.later HA.out hW.1).2
      · omega
      obtain ⟨x0, q2, q3⟩ := hW.at hlt
      have q1 := hc1 k hlt
      cases hx
      clear hc1 HA
      go_wp2
      go_roundw
      case rel => exact ⟨k + 1, by omega, by go_num, hW.store hlt⟩
      case measure => simp [intOf]; omega
    · go_wp2
      go_ret
      have hkn : k = n := by omega
      rw [hkn] at hW
      obtain ⟨h1, cur, h2, h3, h4⟩ := hW
      exact ⟨_, rfl, lt_of_heap h2, fun i hi => by rw [cell_of_heap h2]; exact h4 i hi, h1⟩
end Go.Proofs.Qxb6612722a
