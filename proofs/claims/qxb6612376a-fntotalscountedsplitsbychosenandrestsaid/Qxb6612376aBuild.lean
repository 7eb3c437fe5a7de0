/-
  THE WALK OF buildTotals.
-/
import Derived.Test.Qxb6612376aCounted
import Derived.Deep.RegionHeld3
namespace Go.Proofs.Qxb6612376a
open Go.RowKit

/-- The loop's world: old memory as it was; block B = w.heap.size holds n rows of four cells, the first k of them filled. -/
def BuildW (w wr : World) (n k : Nat) (f : Nat → ByteArray) (hi lo ns : Nat → Int) : Prop :=
  Below w.heap.size w wr ∧ ∃ cur : Array Value, wr.heap[w.heap.size]? = some (.cells cur 48 (0, 0)) ∧ cur.size = n * 4 ∧
    ∀ i, i < k → cur[i * 4]? = some (.string (f i)) ∧ cur[i * 4 + 1]? = some (.int .u64 (hi i)) ∧ cur[i * 4 + 2]? = some (.int .u64 (lo i)) ∧ cur[i * 4 + 3]? = some (.int .i64 (ns i))

theorem lt_of_heap {w : World} {g : Nat} {o : Obj} (h : w.heap[g]? = some o) : g < w.heap.size := by
  rcases Nat.lt_or_ge g w.heap.size with h' | h'
  · exact h'
  · rw [Array.getElem?_eq_none h'] at h; cases h
theorem cell_of_heap {w : World} {g : Nat} {cur : Array Value} {t : TypeId} (h : w.heap[g]? = some (.cells cur t (0, 0))) (j : Nat) : w.cell? ⟨g, j, none⟩ = cur[j]? := by
  simp [World.cell?, h]
theorem frozen_of_heap {w : World} {g : Nat} {cur : Array Value} {t : TypeId} (h : w.heap[g]? = some (.cells cur t (0, 0))) (j : Nat) : w.frozen? ⟨g, j, none⟩ = false :=
  frozen_of_row w g j cur t h

theorem BuildW.later {w wr wr' : World} {n k : Nat} {f : Nat → ByteArray} {hi lo ns : Nat → Int} (h : BuildW w wr n k f hi lo ns) (hb : Below wr.heap.size wr wr') : BuildW w wr' n k f hi lo ns := by
  obtain ⟨h1, cur, h2, h3, h4⟩ := h
  exact ⟨below_call h1 hb, cur, (hb.block _ (lt_of_heap h2)).trans h2, h3, h4⟩
theorem BuildW.four {w wr : World} {n k : Nat} {f : Nat → ByteArray} {hi lo ns : Nat → Int} (h : BuildW w wr n k f hi lo ns) (hk : k < n) :
    ∃ x0 x1 x2 x3, (wr.cell? ⟨w.heap.size, k * 4, none⟩ = some x0 ∧ wr.cell? ⟨w.heap.size, k * 4 + 1, none⟩ = some x1 ∧ wr.cell? ⟨w.heap.size, k * 4 + 2, none⟩ = some x2 ∧ wr.cell? ⟨w.heap.size, k * 4 + 3, none⟩ = some x3) ∧
      (wr.frozen? ⟨w.heap.size, k * 4, none⟩ = false ∧ wr.frozen? ⟨w.heap.size, k * 4 + 1, none⟩ = false ∧ wr.frozen? ⟨w.heap.size, k * 4 + 2, none⟩ = false ∧ wr.frozen? ⟨w.heap.size, k * 4 + 3, none⟩ = false) := by
  obtain ⟨h1, cur, h2, h3, h4⟩ := h
  simp only [cell_of_heap h2, frozen_of_heap h2]
  refine ⟨cur[k * 4]'(by omega), cur[k * 4 + 1]'(by omega), cur[k * 4 + 2]'(by omega), cur[k * 4 + 3]'(by omega), ⟨?_, ?_, ?_, ?_⟩, trivial, trivial, trivial, trivial⟩ <;> exact Array.getElem?_eq_getElem _
theorem BuildW.store {w wr : World} {n k : Nat} {f : Nat → ByteArray} {hi lo ns : Nat → Int} (h : BuildW w wr n k f hi lo ns) (hk : k < n) :
    BuildW w ((((wr.setCell ⟨w.heap.size, k * 4, none⟩ (.string (f k))).setCell ⟨w.heap.size, k * 4 + 1, none⟩ (.int .u64 (hi k))).setCell ⟨w.heap.size, k * 4 + 2, none⟩ (.int .u64 (lo k))).setCell ⟨w.heap.size, k * 4 + 3, none⟩ (.int .i64 (ns k))) n (k + 1) f hi lo ns := by
  obtain ⟨h1, cur, h2, h3, h4⟩ := h
  refine ⟨(((h1.setCell (p := ⟨w.heap.size, k * 4, none⟩) (Nat.le_refl _) _).setCell (p := ⟨w.heap.size, k * 4 + 1, none⟩) (Nat.le_refl _) _).setCell (p := ⟨w.heap.size, k * 4 + 2, none⟩) (Nat.le_refl _) _).setCell (p := ⟨w.heap.size, k * 4 + 3, none⟩) (Nat.le_refl _) _, _,
    heap_setCell_same _ _ _ _ _ _ (heap_setCell_same _ _ _ _ _ _ (heap_setCell_same _ _ _ _ _ _ (heap_setCell_same _ _ _ _ _ _ h2))), by simpa using h3, fun i hi' => ?_⟩
  by_cases e : i = k
  · subst e
    simp only [Array.getElem?_setIfInBounds, Array.size_setIfInBounds]
    refine ⟨?_, ?_, ?_, ?_⟩
    · rw [if_neg (by omega), if_neg (by omega), if_neg (by omega), if_pos trivial, if_pos (by omega)]
    · rw [if_neg (by omega), if_neg (by omega), if_pos trivial, if_pos (by omega)]
    · rw [if_neg (by omega), if_pos trivial, if_pos (by omega)]
    · rw [if_pos trivial, if_pos (by omega)]
  · obtain ⟨a0, a1, a2, a3⟩ := h4 i (by omega)
    simp only [Array.getElem?_setIfInBounds]
    refine ⟨?_, ?_, ?_, ?_⟩
    all_goals
      rw [if_neg (by omega), if_neg (by omega), if_neg (by omega), if_neg (by omega)]
      assumption
theorem BuildW.done {w wr : World} {n : Nat} {f : Nat → ByteArray} {hi lo ns : Nat → Int} (h : BuildW w wr n n f hi lo ns) : TRow wr w.heap.size n f hi lo ns := by
  obtain ⟨h1, cur, h2, h3, h4⟩ := h
  refine ⟨lt_of_heap h2, fun i hi => ?_⟩
  simp only [cell_of_heap h2]
  exact h4 i hi
theorem BuildW.start (w : World) (C : Array Value) (n : Nat) (hC : C.size = n * 4) (f : Nat → ByteArray) (hi lo ns : Nat → Int) : BuildW w (w.alloc (.cells C 48)) n 0 f hi lo ns := by
  refine ⟨(Below.refl _ _).alloc (Nat.le_refl _) _, C, ?_, hC, fun i hi => by omega⟩
  show (w.heap.push (.cells C 48))[w.heap.size]? = _
  simp

/-- 'make(Totals, n)': a new block of n rows of four cells. -/
theorem make_totals (n : Nat) (hn : n ≤ 65536) : ∃ C : Array Value, C.size = n * 4 ∧ ∀ w : World, (Instr.makeSlice 38 (.int .i64 (n : Int)) (.int .i64 (n : Int))).run Try.prog w = .ok (.slice (some ⟨w.heap.size, 0, none⟩) n n) (w.alloc (.cells C 48)) := by
  have hinfo : (Try.prog.info? 48).map (fun i => (i.zero, i.size, i.bytes)) = some (some (.agg #[.string ByteArray.empty, .int .u64 0, .int .u64 0, .int .i64 0]), 4, 40) := by kernel_rfl
  obtain ⟨i0, hi, hz0, hz1, hz2⟩ := info_parts hinfo
  refine ⟨madeCells (Value.agg #[.string ByteArray.empty, .int .u64 0, .int .u64 0, .int .i64 0]).cells (n * 4), size_madeCells _ _, fun w => ?_⟩
  have h := run_make (P := Try.prog) w 38 48 i0 (.agg #[.string ByteArray.empty, .int .u64 0, .int .u64 0, .int .i64 0]) Try.underlying38 hi hz0 .i64 .i64 n n (by omega) (by omega) (by rw [hz2]; omega) (by omega)
  rw [h]
  simp only [Int.toNat_natCast, hz1]

/-! ### the four loads of a round -/
theorem four_drew {W0 : World} {a0 a1 a2 a3 : Addr} {v0 v1 v2 v3 : Value} (h : Hid (W0.cell? a0 = some v0 ∧ W0.cell? a1 = some v1 ∧ W0.cell? a2 = some v2 ∧ W0.cell? a3 = some v3)) :
    W0.drew.cell? a0 = some v0 ∧ W0.drew.cell? a1 = some v1 ∧ W0.drew.cell? a2 = some v2 ∧ W0.drew.cell? a3 = some v3 := h.out
theorem four_later {w' w'' : World} {a0 a1 a2 a3 : Addr} {v0 v1 v2 v3 : Value} (h : w'.cell? a0 = some v0 ∧ w'.cell? a1 = some v1 ∧ w'.cell? a2 = some v2 ∧ w'.cell? a3 = some v3) (hb : Below w'.heap.size w' w'') :
    w''.cell? a0 = some v0 ∧ w''.cell? a1 = some v1 ∧ w''.cell? a2 = some v2 ∧ w''.cell? a3 = some v3 :=
  ⟨cell_later hb h.1, cell_later hb h.2.1, cell_later hb h.2.2.1, cell_later hb h.2.2.2⟩
theorem four_store {w' : World} {g o0 o1 o2 o3 : Nat} {x0 x1 x2 x3 : Value} {a0 a1 a2 a3 : Addr} {v0 v1 v2 v3 : Value} (h : w'.cell? a0 = some v0 ∧ w'.cell? a1 = some v1 ∧ w'.cell? a2 = some v2 ∧ w'.cell? a3 = some v3)
    (n0 : a0.block < g) (n1 : a1.block < g) (n2 : a2.block < g) (n3 : a3.block < g) :
    ((((w'.setCell ⟨g, o0, none⟩ x0).setCell ⟨g, o1, none⟩ x1).setCell ⟨g, o2, none⟩ x2).setCell ⟨g, o3, none⟩ x3).cell? a0 = some v0 ∧ ((((w'.setCell ⟨g, o0, none⟩ x0).setCell ⟨g, o1, none⟩ x1).setCell ⟨g, o2, none⟩ x2).setCell ⟨g, o3, none⟩ x3).cell? a1 = some v1 ∧
    ((((w'.setCell ⟨g, o0, none⟩ x0).setCell ⟨g, o1, none⟩ x1).setCell ⟨g, o2, none⟩ x2).setCell ⟨g, o3, none⟩ x3).cell? a2 = some v2 ∧ ((((w'.setCell ⟨g, o0, none⟩ x0).setCell ⟨g, o1, none⟩ x1).setCell ⟨g, o2, none⟩ x2).setCell ⟨g, o3, none⟩ x3).cell? a3 = some v3 := by
  obtain ⟨h0, h1, h2, h3⟩ := h
  refine ⟨?_, ?_, ?_, ?_⟩
  all_goals
    rw [World.cell?_setCell_far _ _ _ _ (by simp only; omega), World.cell?_setCell_far _ _ _ _ (by simp only; omega), World.cell?_setCell_far _ _ _ _ (by simp only; omega), World.cell?_setCell_far _ _ _ _ (by simp only; omega)]
    assumption

set_option maxHeartbeats 1600000 in
theorem build_any (a0 a1 a2 a3 : Option Addr) (n c0 c1 c2 c3 : Nat) (f : Nat → ByteArray) (hi lo ns : Nat → Int) (w : World) (hn : n ≤ 65536)
    (r0 : CRow w a0 n (fun i => .string (f i))) (r1 : CRow w a1 n (fun i => .int .u64 (hi i))) (r2 : CRow w a2 n (fun i => .int .u64 (lo i))) (r3 : CRow w a3 n (fun i => .int .i64 (ns i))) :
    Calls Try.prog 14 #[.slice a0 n c0, .slice a1 n c1, .slice a2 n c2, .slice a3 n c3] w fun e w' =>
      e = .returned (.slice (some ⟨w.heap.size, 0, none⟩) n n) ∧ TRow w' w.heap.size n f hi lo ns ∧ Below w.heap.size w w' := by
  obtain ⟨C, hC, hmk⟩ := make_totals n hn
  have HC : Hid _ := hC
  clear hC
  go_enter Try.func14, Try.ntmps14
  go_wp2
  go_loopw [10] (fun i wr => ∃ (k : Nat), k ≤ n ∧ i = .int .i64 k ∧ BuildW w wr n k f hi lo ns) (fun i _ => n - (intOf i).toNat)
  case atStart => exact ⟨0, Nat.zero_le _, rfl, BuildW.start w C n HC.out f hi lo ns⟩
  case round =>
    obtain ⟨k, hk, rfl, hW⟩ := hrel
    clear hmk HC
    by_cases hlt : k < n
    · have R0 := r0.later hW.1
      have R1 := r1.later hW.1
      have R2 := r2.later hW.1
      have R3 := r3.later hW.1
      obtain h0 | ⟨g0, o0, rfl, hb0, hc0⟩ := r0.2
      · omega
      obtain h0 | ⟨g1, o1, rfl, hb1, hc1⟩ := r1.2
      · omega
      obtain h0 | ⟨g2, o2, rfl, hb2, hc2⟩ := r2.2
      · omega
      obtain h0 | ⟨g3, o3, rfl, hb3, hc3⟩ := r3.2
      · omega
      have HS : Hid (wr.cell? ⟨g0, o0 + k, none⟩ = some (.string (f k)) ∧ wr.cell? ⟨g1, o1 + k, none⟩ = some (.int .u64 (hi k)) ∧ wr.cell? ⟨g2, o2 + k, none⟩ = some (.int .u64 (lo k)) ∧ wr.cell? ⟨g3, o3 + k, none⟩ = some (.int .i64 (ns k))) :=
        ⟨cell_later hW.1 (hc0 k hlt), cell_later hW.1 (hc1 k hlt), cell_later hW.1 (hc2 k hlt), cell_later hW.1 (hc3 k hlt)⟩
      clear hc0 hc1 hc2 hc3 R0 R1 R2 R3 r0 r1 r2 r3
      have hlt' : (k : Int) < (n : Int) := by omega
      go_wp2
      go_region_held3 (fun w' => w'.cell? ⟨g0, o0 + k, none⟩ = some (.string (f k)) ∧ w'.cell? ⟨g1, o1 + k, none⟩ = some (.int .u64 (hi k)) ∧ w'.cell? ⟨g2, o2 + k, none⟩ = some (.int .u64 (lo k)) ∧ w'.cell? ⟨g3, o3 + k, none⟩ = some (.int .i64 (ns k)))
        (first | exact four_drew HS | exact four_later (by assumption) (by assumption) | exact four_store (by assumption) hb0 hb1 hb2 hb3)
        (first
          | (go_at_call 7; refine (newSum_any _ _ _ _).mono ?_; rintro e w1 ⟨rfl, hb⟩; have hW1 := hW.later (below_call (Below.refl _ wr).drew hb); obtain ⟨x0, x1, x2, x3, ⟨t0, t1, t2, t3⟩, y0, y1, y2, y3⟩ := hW1.four hlt))
      go_wp2
      go_roundw
      case rel => exact ⟨k + 1, by omega, by go_num, hW1.store hlt⟩
      case measure => simp [intOf]; omega
    · go_wp2
      go_ret
      have hkn : k = n := by omega
      rw [hkn] at hW
      exact ⟨rfl, hW.done, hW.1⟩
end Go.Proofs.Qxb6612376a
