/-
  THE WALK OF FnTotalsCountedSumsChosenBodies.
-/
import Derived.Test.Qxb6612376aBuild
import Derived.Test.Qxb6612376aLimbs
import Derived.Test.Qxb6612376aBytes
import Derived.Laws.CopyOwn
namespace Go.Proofs.Qxb6612376a
open Go.RowKit

/-- 'make([]string, m)': a new block of m cells. -/
theorem make_strings (m : Nat) (hm : m ≤ 65536) : ∃ C : List Value, C.length = m ∧ ∀ w : World, (Instr.makeSlice 32 (.int .i64 (m : Int)) (.int .i64 (m : Int))).run Try.prog w = .ok (.slice (some ⟨w.heap.size, 0, none⟩) m m) (w.alloc (.cells C.toArray 9)) := by
  have hinfo : (Try.prog.info? 9).map (fun i => (i.zero, i.size, i.bytes)) = some (some (.string ByteArray.empty), 1, 16) := by kernel_rfl
  obtain ⟨i0, hi, hz0, hz1, hz2⟩ := info_parts hinfo
  refine ⟨(madeCells (Value.string ByteArray.empty).cells (m * 1)).toList, by rw [Array.length_toList, size_madeCells]; omega, fun w => ?_⟩
  have h := run_make (P := Try.prog) w 32 9 i0 (.string ByteArray.empty) Try.underlying32 hi hz0 .i64 .i64 m m (by omega) (by omega) (by rw [hz2]; omega) (by omega)
  rw [h]
  simp only [Int.toNat_natCast, hz1, Array.toArray_toList]

theorem strs_oneCell (m : Nat) (fc : Nat → ByteArray) : ∀ v ∈ (List.range m).map (fun i => Value.string (fc i)), v.oneCell' = true := by
  intro v hv
  simp only [List.mem_map] at hv
  obtain ⟨i, _, rfl⟩ := hv
  rfl

theorem splice_whole {α : Type} (L cs : List α) (h : cs.length = L.length) : splice L 0 cs = cs := by
  simp [splice, h]

theorem crow_of_heap {w : World} {g m : Nat} {fc : Nat → ByteArray} (hm : m ≤ 65536) (h : w.heap[g]? = some (.cells ((List.range m).map (fun i => Value.string (fc i))).toArray 9 (0, 0))) :
    CRow w (some ⟨g, 0, none⟩) m (fun i => .string (fc i)) := by
  refine ⟨by omega, .inr ⟨g, 0, rfl, lt_of_heap h, fun i hi => ?_⟩⟩
  rw [cell_of_heap h]
  simp [hi]

theorem heap_alloc_self (w : World) (cs : Array Value) (t : TypeId) : (w.alloc (.cells cs t)).heap[w.heap.size]? = some (.cells cs t (0, 0)) := by
  show (w.heap.push (.cells cs t))[w.heap.size]? = _
  simp

/-- 'copy(zzc, chosen)' into the slice of strings that was just made. -/
theorem copy_strings (w : World) (a4 : Option Addr) (m c4 : Nat) (fc : Nat → ByteArray) (C : List Value) (hC : C.length = m) (hm : m ≤ 65536) (r4 : CRow w a4 m (fun i => .string (fc i))) :
    ∃ W2, (Builtin.copy_ #[32, 32] 3 #[.slice (some ⟨w.heap.size, 0, none⟩) m m, .slice a4 m c4]).run Try.prog (w.alloc (.cells C.toArray 9)) = .ok (.int .i64 m) W2 ∧
      CRow W2 (some ⟨w.heap.size, 0, none⟩) m (fun i => .string (fc i)) ∧ Below w.heap.size w W2 := by
  have hb : Below w.heap.size w (w.alloc (.cells C.toArray 9)) := (Below.refl _ _).alloc (Nat.le_refl _) _
  have hsz : (Try.prog.info? 9).map (·.size) = some 1 := by kernel_rfl
  obtain h0 | ⟨b, off, rfl, _, hc⟩ := r4.2
  · subst h0
    have h := run_copy_none (P := Try.prog) (w.alloc (.cells C.toArray 9)) 32 32 3 9 (some ⟨w.heap.size, 0, none⟩) a4 0 0 0 c4 Try.underlying32 hsz rfl
    exact ⟨_, h, ⟨by omega, .inl rfl⟩, hb⟩
  · have hl : ((List.range m).map (fun i => Value.string (fc i))).length = m := by simp
    have h := run_copy_row (P := Try.prog) (w.alloc (.cells C.toArray 9)) 32 32 3 9 w.heap.size 0 m m ⟨b, off, none⟩ m c4 C.toArray 9 ((List.range m).map (fun i => Value.string (fc i))) Try.underlying32 hsz (heap_alloc_self _ _ _) (by simp) (fun j v hj => by
      have hlt : j < m := by
        rcases Nat.lt_or_ge j m with h' | h'
        · exact h'
        · rw [List.getElem?_eq_none (by simpa using h')] at hj; cases hj
      simp [hlt] at hj
      subst hj
      have e : (⟨b, off, none⟩ : Addr).add j = ⟨b, off + j, none⟩ := by
        unfold Addr.add; split
        · rename_i e; subst e; rfl
        · rfl
      rw [e]
      exact cell_later hb (hc j hlt)) (by simp [hC]) (strs_oneCell m fc)
    have e1 : C.toArray.toList.take 0 ++ (List.range m).map (fun i => Value.string (fc i)) ++ C.toArray.toList.drop (0 + ((List.range m).map (fun i => Value.string (fc i))).length) = (List.range m).map (fun i => Value.string (fc i)) := by
      simp [hC]
    rw [e1, hl] at h
    refine ⟨_, h, crow_of_heap hm ?_, below_setRow hb (Nat.le_refl _) _⟩
    exact setRow_heap _ _ _ _ 9 _ (heap_alloc_self _ _ _)

set_option maxHeartbeats 1600000 in
theorem sumsChosen_main (a0 a1 a2 a3 a4 : Option Addr) (n m c0 c1 c2 c3 c4 : Nat) (f fc : Nat → ByteArray) (hi lo ns : Nat → Int) (w : World) (hn : n ≤ 65536) (hm : m ≤ 4096)
    (r0 : CRow w a0 n (fun i => .string (f i))) (r1 : CRow w a1 n (fun i => .int .u64 (hi i))) (r2 : CRow w a2 n (fun i => .int .u64 (lo i))) (r3 : CRow w a3 n (fun i => .int .i64 (ns i))) (r4 : CRow w a4 m (fun i => .string (fc i)))
    (whi : ∀ i, Word (hi i)) (wlo : ∀ i, Word (lo i)) :
    Calls Try.prog 5 #[.slice a0 n c0, .slice a1 n c1, .slice a2 n c2, .slice a3 n c3, .slice a4 m c4] w fun e w' => e = .returned (.bool true) ∧ Below w.heap.size w w' := by
  have hne := fun w => run_neq_slice_nil_any (P := Try.prog) w 32 9 a4 m c4 0 0 Try.underlying32
  obtain ⟨C, hC, hmk⟩ := make_strings m (by omega)
  have HC : Hid _ := hC
  clear hC
  go_enter Try.func5, Try.ntmps5
  go_wp2_with fail
  refine (zzbytes12_any a0 a1 a2 a3 a4 n n n n m c0 c1 c2 c3 c4 f fc _ r0 r4).mono ?_
  rintro e w ⟨⟨r, rfl⟩, rfl⟩
  cases r
  · go_wp2
    go_ret
    exact ⟨rfl, Below.refl _ _⟩
  go_wp2_with fail
  refine (sbytes_any a0 n c0 f _ r0).mono ?_
  rintro e w ⟨s1, rfl, rfl⟩
  go_wp2_with fail
  refine (sbytes_any a4 m c4 fc _ r4).mono ?_
  rintro e w ⟨s2, rfl, rfl⟩
  obtain ⟨W2, hcp, r4', hB'⟩ := copy_strings w a4 m c4 fc C HC.out (by omega) r4
  go_wp2_with fail
  · go_ret
    exact ⟨rfl, Below.refl _ _⟩
  · clear hcp hmk hne HC
    have hB := hB'
    refine (build_any a0 a1 a2 a3 n c0 c1 c2 c3 f hi lo ns _ hn (r0.later hB) (r1.later hB) (r2.later hB) (r3.later hB)).mono ?_
    rintro e w3 ⟨rfl, hT, hb3⟩
    have hB3 := below_call hB hb3
    go_wp2_with fail
    refine (zzcounted_any _ n m _ _ f fc hi lo ns _ hn hT (r4'.later hb3) whi wlo).mono ?_
    rintro e w4 ⟨rfl, hb4⟩
    go_wp2_with fail
    refine (parts_any _ _ _ _).mono ?_
    rintro e w5 ⟨rfl, hb5⟩
    have hB5 := below_call (below_call hB3 hb4) hb5
    have r4'' := ((r4'.later hb3).later hb4).later hb5
    go_wp2_with fail
    refine (limbTotal_false a0 a1 a2 a3 _ n m c0 c1 c2 c3 _ f fc hi lo ns _ hn (r0.later hB5) (r1.later hB5) (r2.later hB5) (r3.later hB5) r4'' whi wlo).mono ?_
    rintro e w6 ⟨rfl, rfl⟩
    go_wp2
    go_ret
    exact ⟨rfl, hB5⟩
  · clear hcp hmk hne HC
    have hB := Below.refl w.heap.size w
    have r4' := r4
    refine (build_any a0 a1 a2 a3 n c0 c1 c2 c3 f hi lo ns _ hn (r0.later hB) (r1.later hB) (r2.later hB) (r3.later hB)).mono ?_
    rintro e w3 ⟨rfl, hT, hb3⟩
    have hB3 := below_call hB hb3
    go_wp2_with fail
    refine (zzcounted_any _ n m _ _ f fc hi lo ns _ hn hT (r4'.later hb3) whi wlo).mono ?_
    rintro e w4 ⟨rfl, hb4⟩
    go_wp2_with fail
    refine (parts_any _ _ _ _).mono ?_
    rintro e w5 ⟨rfl, hb5⟩
    have hB5 := below_call (below_call hB3 hb4) hb5
    have r4'' := ((r4'.later hb3).later hb4).later hb5
    go_wp2_with fail
    refine (limbTotal_false a0 a1 a2 a3 _ n m c0 c1 c2 c3 _ f fc hi lo ns _ hn (r0.later hB5) (r1.later hB5) (r2.later hB5) (r3.later hB5) r4'' whi wlo).mono ?_
    rintro e w6 ⟨rfl, rfl⟩
    go_wp2
    go_ret
    exact ⟨rfl, hB5⟩
end Go.Proofs.Qxb6612376a
