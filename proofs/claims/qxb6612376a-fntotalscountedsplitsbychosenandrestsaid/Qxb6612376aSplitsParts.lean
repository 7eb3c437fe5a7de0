/-
  THE WALK OF FnTotalsCountedSplitsByChosenAndRest: what its loop does; where the lengths do not fit.
-/
import Derived.Test.Qxb6612376aSumsChosen
import Derived.Test.Qxb6612376aRest
namespace Go.Proofs.Qxb6612376a
open Go.RowKit

/-- 'make([]string, 0, n)'. -/
theorem make_rest (n : Nat) (hn : n ≤ 65536) : ∃ C : List Value, C.length = n ∧ ∀ w : World, (Instr.makeSlice 32 (.int .i64 0) (.int .i64 (n : Int))).run Try.prog w = .ok (.slice (some ⟨w.heap.size, 0, none⟩) 0 n) (w.alloc (.cells C.toArray 9)) := by
  have hinfo : (Try.prog.info? 9).map (fun i => (i.zero, i.size, i.bytes)) = some (some (.string ByteArray.empty), 1, 16) := by kernel_rfl
  obtain ⟨i0, hi, hz0, hz1, hz2⟩ := info_parts hinfo
  refine ⟨(madeCells (Value.string ByteArray.empty).cells (n * 1)).toList, by rw [Array.length_toList, size_madeCells]; omega, fun w => ?_⟩
  have h := run_make (P := Try.prog) w 32 9 i0 (.string ByteArray.empty) Try.underlying32 hi hz0 .i64 .i64 0 n (by omega) (by omega) (by rw [hz2]; omega) (by omega)
  rw [h]
  simp only [Int.toNat_natCast, Int.toNat_zero, hz1, Array.toArray_toList]

/-- The loop's world: all that lay before 'rest' was made is as it was; 'rest' owns the strings L. -/
def RestW (W wr : World) (n : Nat) (L : List ByteArray) : Prop :=
  Below W.heap.size W wr ∧ wr.ownsRow W.heap.size 9 1 (.slice (some ⟨W.heap.size, 0, none⟩) L.length n) L.length (L.map Value.string)

theorem RestW.start (W : World) (n : Nat) (hn : n ≤ 65536) (C : List Value) (hC : C.length = n) : RestW W (W.alloc (.cells C.toArray 9)) n [] := by
  refine ⟨(Below.refl _ _).alloc (Nat.le_refl _) _, by simp, .inr ⟨W.heap.size, n, C.toArray, rfl, Nat.le_refl _, heap_alloc_self _ _ _, by simp, by unfold maxLen; omega, by simp [hC], by simp⟩⟩

theorem RestW.row {W wr : World} {n : Nat} {L : List ByteArray} (h : RestW W wr n L) (hn : L.length ≤ 65536) : CRow wr (some ⟨W.heap.size, 0, none⟩) L.length (fun i => .string (L.getD i ByteArray.empty)) := by
  obtain ⟨hb, hown⟩ := h
  refine ⟨by omega, ?_⟩
  by_cases h0 : L.length = 0
  · exact .inl h0
  have hc : ∀ i, i < L.length → wr.cell? ⟨W.heap.size, 0 + i, none⟩ = some (.string (L.getD i ByteArray.empty)) := fun i hi => by
    rw [Nat.zero_add, hown.cellAt i (by omega)]
    simp [hi]
  exact .inr ⟨W.heap.size, 0, rfl, World.block_lt_of_cell? _ _ (hc 0 (by omega)), hc⟩

/-- What holds behind k rounds: 'rest' has j elements. -/
def RestSt (W wr : World) (n : Nat) (f fc : Nat → ByteArray) (m k j : Nat) : Prop := j = (restL f fc m k).length ∧ RestW W wr n (restL f fc m k)

theorem RestSt.yes {W wr : World} {n : Nat} {f fc : Nat → ByteArray} {m k j : Nat} (h : RestSt W wr n f fc m k j) (hm : memb fc (f k) m = true) : RestSt W wr n f fc m (k + 1) j := by
  unfold RestSt; rw [restL_yes hm]; exact h
theorem RestSt.own {W wr : World} {n : Nat} {f fc : Nat → ByteArray} {m k j : Nat} (h : RestSt W wr n f fc m k j) : wr.ownsRow W.heap.size 9 1 (.slice (some ⟨W.heap.size, 0, none⟩) j n) j ((restL f fc m k).map Value.string) := by
  obtain ⟨rfl, h2⟩ := h; exact h2.2
theorem RestSt.no {W wr w2 : World} {n : Nat} {f fc : Nat → ByteArray} {m k j : Nat} {o : Obj} (h : RestSt W wr n f fc m k j) (hm : memb fc (f k) m = false)
    (hown : w2.ownsRow W.heap.size 9 1 (.slice (some ⟨W.heap.size, 0, none⟩) (j + 1) n) (j + 1) ((restL f fc m k).map Value.string ++ [.string (f k)])) (hgr : (wr.alloc o).grownBy w2 (some W.heap.size)) :
    RestSt W w2 n f fc m (k + 1) (j + 1) := by
  obtain ⟨rfl, hb, _⟩ := h
  have hB : Below W.heap.size W (wr.alloc o) := hb.alloc hb.size _
  unfold RestSt
  rw [restL_no hm]
  refine ⟨by simp, hB.grown hgr hB.size (fun k hk => by cases hk; exact Nat.le_refl _), ?_⟩
  simpa using hown
theorem news_one (w : World) (s : ByteArray) : ∀ j u, [Value.string s][j]? = some u → (w.alloc (.cells #[.string s] 9)).cell? ((⟨w.heap.size, 0, none⟩ : Addr).add j) = some u := by
  intro j u hj
  match j, hj with
  | 0, hj => simp at hj; subst hj; simp [Addr.add]
theorem news_cell (s : ByteArray) : ∀ u ∈ [Value.string s], u.oneCell' = true := by
  intro u hu; simp at hu; subst hu; rfl
/-- 'member', its world said the other way round. -/
theorem member_stay (ao : Option Addr) (n cap : Nat) (f : Nat → ByteArray) (s : ByteArray) (w : World) (hr : CRow w ao n (fun i => .string (f i))) :
    Calls Try.prog 18 #[.slice ao n cap, .string s] w fun e w' => e = .returned (.bool (memb f s n)) ∧ w = w' :=
  (member_any ao n cap f s w hr).mono fun _ _ ⟨h1, h2⟩ => ⟨h1, h2.symm⟩

theorem own3_new (w : World) (x y z : Value) : Own3 (w.alloc (.cells #[x, y, z] 24)) w.heap.size x y z := by simp [Own3, go_sem]

set_option maxRecDepth 100000 in
set_option maxHeartbeats 1600000 in
theorem splits_early (a0 a1 a2 a3 a4 : Option Addr) (n0 n1 n2 n3 n4 c0 c1 c2 c3 c4 : Nat) (f fc : Nat → ByteArray) (w : World)
    (r0 : CRow w a0 n0 (fun i => .string (f i))) (r4 : CRow w a4 n4 (fun i => .string (fc i)))
    (hno : Hid (¬ (n1 = n0 ∧ n2 = n0 ∧ n3 = n0 ∧ n0 ≤ 4096 ∧ n4 ≤ 4096))) :
    Calls Try.prog 6 #[.slice a0 n0 c0, .slice a1 n1 c1, .slice a2 n2 c2, .slice a3 n3 c3, .slice a4 n4 c4] w fun e w' => e = .returned (.bool true) ∧ Below w.heap.size w w' := by
  go_enter Try.func6, Try.ntmps6
  go_wp2_with fail
  refine (zzbytes17_any a0 a1 a2 a3 a4 n0 n1 n2 n3 n4 c0 c1 c2 c3 c4 f fc _ r0 r4).mono ?_
  rintro e w ⟨⟨r, rfl⟩, rfl⟩
  cases r
  · go_wp2
    go_ret
    exact ⟨rfl, Below.refl _ _⟩
  go_wp2_with fail
  refine (sbytes_any a0 n0 c0 f _ r0).mono ?_
  rintro e w ⟨s1, rfl, rfl⟩
  go_wp2_with fail
  refine (sbytes_any a4 n4 c4 fc _ r4).mono ?_
  rintro e w ⟨s2, rfl, rfl⟩
  go_wp2_with fail
  all_goals try (go_ret; exact ⟨rfl, Below.refl _ _⟩)
  have h3 : ((n3 : Int) != (n0 : Int)) = false := by assumption
  have h2 : (n2 : Int) = (n0 : Int) := by assumption
  have h1 : (n1 : Int) = (n0 : Int) := by assumption
  have h0 : (n0 : Int) ≤ 4096 ∧ (n4 : Int) ≤ 4096 := by assumption
  rw [bne_eq_false_iff_eq] at h3
  exact (hno.out ⟨by omega, by omega, by omega, by omega, by omega⟩).elim
end Go.Proofs.Qxb6612376a
