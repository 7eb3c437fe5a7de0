/-
  THE WALKS OF THE READER's SMALL FUNCTIONS: ZZnewReaderOver, ZZtext, ZZwithText, put, ZZput.
-/
import Derived.Test.Qxb6612405aApp
namespace Go.Proofs.Qxb6612405a
open Go.RowKit

/-- appendRuneNonASCII at every number that is no ASCII rune. -/
theorem app_other (c : Int) (hc0 : -2147483648 ≤ c) (hc1 : c ≤ 2147483647) (hna : c < 0 ∨ 128 ≤ c) (B : Nat) (v : Value) (n : Nat) (xs : List Value) (w : World) (hown : w.ownsRow B 5 1 v n xs) (hlen : n + 4 ≤ 140737488355328) (hB : B ≤ w.heap.size) :
    Calls Try.prog 53 #[v, .int .i32 c] w fun e w' => ∃ v', e = .returned v' ∧ w'.ownsRow B 5 1 v' (n + (enc c).length) (xs ++ cells (enc c)) ∧ w.grownBy w' v.ownBlock := by
  unfold enc
  by_cases d0 : c < 0
  · rw [fixed_bad (.inl d0), show utf 65533 = [239, 191, 189] from by decide]
    exact app_bad_neg c hc0 d0 B v n xs w hown hlen hB
  by_cases d1 : 1114111 < c
  · rw [fixed_bad (.inr (.inl d1)), show utf 65533 = [239, 191, 189] from by decide]
    exact app_bad_big c d1 hc1 B v n xs w hown hlen hB
  by_cases d2 : 55296 ≤ c ∧ c ≤ 57343
  · rw [fixed_bad (.inr (.inr d2)), show utf 65533 = [239, 191, 189] from by decide]
    exact app_bad_sur c d2.1 d2.2 B v n xs w hown hlen hB
  rw [fixed_good (by omega)]
  by_cases d4 : c < 2048
  · rw [utf_two (by omega) d4]
    exact app_two c (by omega) d4 B v n xs w hown hlen hB
  by_cases d5 : c < 65536
  · rw [utf_three (by omega) d5]
    by_cases d6 : c < 55296
    · exact app_three_lo c (by omega) d6 B v n xs w hown hlen hB
    · exact app_three_hi c (by omega) d5 B v n xs w hown hlen hB
  · rw [utf_four (by omega)]
    exact app_four c (by omega) (by omega) B v n xs w hown hlen hB

/-- utf8.AppendRune at every int32, onto a row of bytes that the call owns (or nil). -/
theorem app_any (c : Int) (hc0 : -2147483648 ≤ c) (hc1 : c ≤ 2147483647) (B : Nat) (v : Value) (n : Nat) (xs : List Value) (w : World) (hown : w.ownsRow B 5 1 v n xs) (hlen : n + 4 ≤ 140737488355328) (hB : B ≤ w.heap.size) :
    Calls Try.prog 52 #[v, .int .i32 c] w fun e w' => ∃ v', e = .returned v' ∧ w'.ownsRow B 5 1 v' (n + (enc c).length) (xs ++ cells (enc c)) ∧ w.grownBy w' v.ownBlock := by
  by_cases d : 0 ≤ c ∧ c < 128
  · rw [show enc c = [c] from by unfold enc; rw [fixed_good (by omega), utf_one d.2]]
    exact app_one c d.1 d.2 B v n xs w hown hlen hB
  · have hna : c < 0 ∨ 128 ≤ c := by omega
    rcases hna with hna | hna
    all_goals
      go_enter Try.func52, Try.ntmps52
      go_wp2_with fail
      refine (app_other c hc0 hc1 (by omega) B v n xs _ hown hlen hB).mono ?_
      rintro e w1 ⟨v', rfl, h1, h2⟩
      go_wp2
      go_ret
      exact ⟨_, rfl, h1, h2⟩

theorem make_buf : ∃ C : Array Value, ∀ w : World, (Instr.makeSlice 22 (.int .i64 65536) (.int .i64 65536)).run Try.prog w = .ok (.slice (some ⟨w.heap.size, 0, none⟩) 65536 65536) (w.alloc (.cells C 5)) := by
  obtain ⟨i0, hi, hz0, hz1, hz2⟩ := info_parts info5
  refine ⟨madeCells (Value.int .u8 0).cells (65536 * i0.size), fun w => ?_⟩
  exact run_make (P := Try.prog) w 22 5 i0 (.int .u8 0) Try.underlying22 hi hz0 .i64 .i64 65536 65536 (by omega) (by omega) (by rw [hz2]; omega) (by omega)

theorem heap_alloc_self (w : World) (cs : Array Value) (t : TypeId) : (w.alloc (.cells cs t)).heap[w.heap.size]? = some (.cells cs t (0, 0)) := by
  show (w.heap.push (.cells cs t))[w.heap.size]? = _
  simp
theorem lt_of_heap {w : World} {g : Nat} {o : Obj} (h : w.heap[g]? = some o) : g < w.heap.size := by
  rcases Nat.lt_or_ge g w.heap.size with h' | h'
  · exact h'
  · rw [Array.getElem?_eq_none h'] at h; cases h
theorem cell_of_heap {w : World} {g : Nat} {cur : Array Value} {t : TypeId} (h : w.heap[g]? = some (.cells cur t (0, 0))) (j : Nat) : w.cell? ⟨g, j, none⟩ = cur[j]? := by
  simp [World.cell?, h]
theorem frozen_of_heap {w : World} {g : Nat} {cur : Array Value} {t : TypeId} (h : w.heap[g]? = some (.cells cur t (0, 0))) (j : Nat) : w.frozen? ⟨g, j, none⟩ = false :=
  frozen_of_row w g j cur t h

theorem newReader_any (w : World) :
    Calls Try.prog 11 #[.slice none 0 0] w fun e w' => ∃ R cs, e = .returned (.pointer (some ⟨R, 0, none⟩)) ∧ w'.heap[R]? = some (.cells cs 67 (0, 0)) ∧ cs.size = 15 ∧ cs[8]? = some (.slice none 0 0) ∧ w'.heap.size = R + 1 ∧ w.heap.size ≤ R ∧ Below w.heap.size w w' := by
  obtain ⟨C, hmk⟩ := make_buf
  go_enter Try.func11, Try.ntmps11
  go_wp2
  go_ret
  have h := heap_alloc_self ((w.alloc (.cells #[.slice none 0 0, .int .i64 0, .int .i64 (-1)] 70)).alloc (.cells C 5)) #[.iface 52 (.pointer (some ⟨w.heap.size, 0, none⟩)), .nilIface, .slice (some ⟨w.heap.size + 1, 0, none⟩) 65536 65536, .int .i64 0, .int .i64 0, .bool false, .int .i64 0, .int .i64 0, .slice none 0 0, .nilIface, .nilIface, .bool false, .int .i64 0, .slice none 0 0, .slice none 0 0] 67
  simp only [World.size_alloc] at h
  exact ⟨w.heap.size + 1 + 1, _, rfl, h, rfl, rfl, by simp, by omega, (((Below.refl _ _).alloc (Nat.le_refl _) _).alloc (by simp) _).alloc (by simp; omega) _⟩

/-- The reader's block: fifteen cells of its struct type, the text in the ninth. -/
def ReaderIs (w : World) (R : Nat) (v : Value) : Prop := ∃ cs : Array Value, w.heap[R]? = some (.cells cs 67 (0, 0)) ∧ cs.size = 15 ∧ cs[8]? = some v

theorem ReaderIs.lt {w : World} {R : Nat} {v : Value} (h : ReaderIs w R v) : R < w.heap.size := by obtain ⟨cs, h, _⟩ := h; exact lt_of_heap h
theorem ReaderIs.cell {w : World} {R : Nat} {v : Value} (h : ReaderIs w R v) : w.cell? ⟨R, 8, none⟩ = some v := by obtain ⟨cs, h, _, h'⟩ := h; rw [cell_of_heap h]; exact h'
theorem ReaderIs.frozen {w : World} {R : Nat} {v : Value} (h : ReaderIs w R v) : w.frozen? ⟨R, 8, none⟩ = false := by obtain ⟨cs, h, _⟩ := h; exact frozen_of_heap h 8
theorem ReaderIs.set {w : World} {R : Nat} {v : Value} (h : ReaderIs w R v) (v' : Value) : ReaderIs (w.setCell ⟨R, 8, none⟩ v') R v' := by
  obtain ⟨cs, h, h1, h2⟩ := h
  refine ⟨_, heap_setCell_same w R 8 cs 67 v' h, by simpa using h1, ?_⟩
  rw [Array.getElem?_setIfInBounds, if_pos rfl, if_pos (by omega)]
theorem ReaderIs.same {w w' : World} {R : Nat} {v : Value} (h : ReaderIs w R v) (he : w'.heap[R]? = w.heap[R]?) : ReaderIs w' R v := by
  obtain ⟨cs, h, h1, h2⟩ := h
  exact ⟨cs, he.trans h, h1, h2⟩
/-- An owned row of bytes is not the reader's block. -/
theorem ReaderIs.ne {w : World} {R B n : Nat} {v u : Value} {xs : List Value} (h : ReaderIs w R v) (hown : w.ownsRow B 5 1 u n xs) : some R ≠ u.ownBlock := by
  obtain ⟨cs, h, _⟩ := h
  rcases hown.2 with ⟨rfl, _⟩ | ⟨g, cap, cur, rfl, _, hg, _⟩
  · simp [Value.ownBlock]
  · intro e
    simp only [Value.ownBlock, Option.some.injEq] at e
    subst e
    rw [h] at hg
    simp at hg

/-- All is as it was but block R and the block 'ob' (and new blocks). -/
structure Kept (w w' : World) (R : Nat) (ob : Option Nat) : Prop where
  os : w'.os = w.os
  tape : w'.tape = w.tape
  output : w'.output = w.output
  size : w.heap.size ≤ w'.heap.size
  block : ∀ k, k < w.heap.size → k ≠ R → some k ≠ ob → w'.heap[k]? = w.heap[k]?

theorem own_shape {w : World} {B n : Nat} {v : Value} {xs : List Value} (h : w.ownsRow B 5 1 v n xs) : ∃ a cap, v = .slice a n cap := by
  rcases h.2 with ⟨rfl, rfl⟩ | ⟨g, cap, cur, rfl, _⟩
  · exact ⟨none, 0, rfl⟩
  · exact ⟨_, _, rfl⟩

theorem own_setOther {w : World} {B n R : Nat} {v u : Value} {xs : List Value} (h : w.ownsRow B 5 1 v n xs) (hne : some R ≠ v.ownBlock) : (w.setCell ⟨R, 8, none⟩ u).ownsRow B 5 1 v n xs := by
  refine h.kept (row := some R) ⟨rfl, rfl, rfl, by simp, fun k _ hk => heap_setCell_other w ⟨R, 8, none⟩ k u (fun e => hk (by simp [e]))⟩ (.inr fun e => hne e.symm)

/-- put, where the text is shorter than keep. -/
theorem put_adds (R B : Nat) (a : Option Addr) (n cap : Nat) (xs : List Value) (c keep : Int) (hc0 : -2147483648 ≤ c) (hc1 : c ≤ 2147483647) (w : World) (hR : ReaderIs w R (.slice a n cap)) (hown : w.ownsRow B 5 1 (.slice a n cap) n xs) (hlen : n + 4 ≤ 140737488355328) (hB : B ≤ w.heap.size) (hk : (n : Int) < keep) :
    Calls Try.prog 45 #[.pointer (some ⟨R, 0, none⟩), .int .i32 c, .int .i64 keep] w fun e w' => e = .returned (.tuple #[]) ∧ ∃ a' cap', ReaderIs w' R (.slice a' (n + (enc c).length) cap') ∧ w'.ownsRow B 5 1 (.slice a' (n + (enc c).length) cap') (n + (enc c).length) (xs ++ cells (enc c)) ∧ Kept w w' R (Value.slice a n cap).ownBlock := by
  have q0 := hR.cell
  have hlt := hR.lt
  have hne := hR.ne hown
  have HNE : Hid _ := hne
  clear hne
  go_enter Try.func45, Try.ntmps45
  go_wp2_with fail
  refine (app_any c hc0 hc1 B (.slice a n cap) n xs _ hown hlen hB).mono ?_
  rintro e w1 ⟨v', rfl, hown1, hg1⟩
  have hR1 := hR.same (hg1.block R hlt HNE.out)
  obtain ⟨a', cap', hv⟩ := own_shape hown1
  subst hv
  have q1 := hR1.cell
  have q2 := hR1.frozen
  have hlt1 := hR1.lt
  go_wp2
  go_end0
  refine ⟨rfl, a', cap', hR1.set _, own_setOther hown1 (hR1.ne hown1), ⟨hg1.os, hg1.tape, hg1.output, by simpa using hg1.size, fun k hk' hkR hko => ?_⟩⟩
  rw [heap_setCell_other _ _ _ _ (by simpa using hkR)]
  exact hg1.block k hk' hko

/-- put, where the text is not shorter than keep. -/
theorem put_stays (R : Nat) (a : Option Addr) (n cap : Nat) (c keep : Int) (w : World) (hR : ReaderIs w R (.slice a n cap)) (hk : keep ≤ (n : Int)) :
    Calls Try.prog 45 #[.pointer (some ⟨R, 0, none⟩), .int .i32 c, .int .i64 keep] w fun e w' => e = .returned (.tuple #[]) ∧ w' = w := by
  have q0 := hR.cell
  have hlt := hR.lt
  go_enter Try.func45, Try.ntmps45
  go_wp2
  go_end0
  exact ⟨rfl, rfl⟩

/-- ZZput, likewise. -/
theorem zzput_adds (R B : Nat) (a : Option Addr) (n cap : Nat) (xs : List Value) (c keep : Int) (hc0 : -2147483648 ≤ c) (hc1 : c ≤ 2147483647) (w : World) (hR : ReaderIs w R (.slice a n cap)) (hown : w.ownsRow B 5 1 (.slice a n cap) n xs) (hlen : n + 4 ≤ 140737488355328) (hB : B ≤ w.heap.size) (hk : (n : Int) < keep) :
    Calls Try.prog 28 #[.pointer (some ⟨R, 0, none⟩), .int .i32 c, .int .i64 keep] w fun e w' => e = .returned (.tuple #[]) ∧ ∃ a' cap', ReaderIs w' R (.slice a' (n + (enc c).length) cap') ∧ w'.ownsRow B 5 1 (.slice a' (n + (enc c).length) cap') (n + (enc c).length) (xs ++ cells (enc c)) ∧ Kept w w' R (Value.slice a n cap).ownBlock := by
  go_enter Try.func28, Try.ntmps28
  go_wp2_with fail
  refine (put_adds R B a n cap xs c keep hc0 hc1 _ hR hown hlen hB hk).mono ?_
  rintro e w1 ⟨rfl, h⟩
  go_wp2
  go_end0
  exact ⟨rfl, h⟩
theorem zzput_stays (R : Nat) (a : Option Addr) (n cap : Nat) (c keep : Int) (w : World) (hR : ReaderIs w R (.slice a n cap)) (hk : keep ≤ (n : Int)) :
    Calls Try.prog 28 #[.pointer (some ⟨R, 0, none⟩), .int .i32 c, .int .i64 keep] w fun e w' => e = .returned (.tuple #[]) ∧ w' = w := by
  go_enter Try.func28, Try.ntmps28
  go_wp2_with fail
  refine (put_stays R a n cap c keep _ hR hk).mono ?_
  rintro e w1 ⟨rfl, rfl⟩
  go_wp2
  go_end0
  exact ⟨rfl, rfl⟩

/-- ZZtext. -/
theorem zztext_any (R : Nat) (a : Option Addr) (n cap : Nat) (w : World) (hR : ReaderIs w R (.slice a n cap)) :
    Calls Try.prog 23 #[.pointer (some ⟨R, 0, none⟩)] w fun e w' => e = .returned (.slice a n cap) ∧ w' = w := by
  have q0 := hR.cell
  have hlt := hR.lt
  go_enter Try.func23, Try.ntmps23
  go_wp2
  go_ret
  exact ⟨rfl, rfl⟩

/-- ZZwithText. -/
theorem withText_any (R : Nat) (u : Value) (a : Option Addr) (n cap : Nat) (w : World) (hR : ReaderIs w R u) :
    Calls Try.prog 30 #[.pointer (some ⟨R, 0, none⟩), .slice a n cap] w fun e w' => e = .returned (.pointer (some ⟨R, 0, none⟩)) ∧ w' = w.setCell ⟨R, 8, none⟩ (.slice a n cap) := by
  have q0 := hR.cell
  have q1 := hR.frozen
  have hlt := hR.lt
  go_enter Try.func30, Try.ntmps30
  go_wp2
  go_ret
  exact ⟨rfl, rfl⟩
end Go.Proofs.Qxb6612405a
