/-
  THE WALKS OF placeAt AND ZZplaceAt.
-/
import Derived.Test.Qxb6612722aClone
import Derived.Laws.Tables
namespace Go.Proofs.Qxb6612722a
open Go.RowKit

/-- The bytes from ls on. -/
def from_ (z : Nat → Int) (ls : Nat) : Nat → Int := fun i => z (ls + i)

theorem CRow.part {w : World} {b off n ls pos : Nat} {z : Nat → Int} (hn : n ≤ 9223372036854775807) (hlt : b < w.heap.size) (hc : ∀ i, i < n → w.cell? ⟨b, off + i, none⟩ = some (.int .u8 (z i))) (h1 : ls ≤ pos) (h2 : pos ≤ n) :
    CRow w (some ⟨b, off + ls, none⟩) (pos - ls) (fun i => .int .u8 (from_ z ls i)) := by
  refine ⟨by omega, .inr ⟨b, off + ls, rfl, hlt, fun i hi => ?_⟩⟩
  rw [Nat.add_assoc]
  exact hc (ls + i) (by omega)

/-- The column that placeAt tells. -/
def colOf (z : Nat → Int) (ls pos : Nat) (same : Bool) : Int := (cnt (from_ z ls) (pos - ls) : Int) + 1 + (if same then 1 else 0)

theorem heap_alloc_other (w : World) (o : Obj) (g : Nat) (h : g < w.heap.size) : (w.alloc o).heap[g]? = w.heap[g]? := by
  show (w.heap.push o)[g]? = _
  rw [Array.getElem?_push, if_neg (by omega)]

theorem info52 : (Try.prog.info? 52).map (·.size) = some 3 := by kernel_rfl

/-- A place is stored into a block of its type. -/
theorem wp_store52 (w wA : World) {ops : Array Oper} {rest : List Oper} {o : Oper} {a : Act} {Q : Exit → Act → World → Prop} (sx sy : Operand) (B g : Nat) (l c p o1 o2 o3 : Int) (hgd : o.guard = none)
    (ho : o.op = .store 52 sx sy) (hx : a.eval sx = .pointer (some ⟨g, 0, none⟩)) (hy : a.eval sy = .agg #[.int .i64 l, .int .i64 c, .int .i64 p])
    (hw : w.heap = wA.heap) (hg : wA.heap[g]? = some (.cells #[.int .i64 o1, .int .i64 o2, .int .i64 o3] 52 (0, 0))) (hB : B ≤ g)
    (h : ∀ w', w'.heap[g]? = some (.cells #[.int .i64 l, .int .i64 c, .int .i64 p] 52 (0, 0)) → Below B w w' → wpList Try.prog ops Q rest (a.put o.dst undef) w') : wpList Try.prog ops Q (o :: rest) a w := by
  have hg' : w.heap[g]? = some (.cells #[.int .i64 o1, .int .i64 o2, .int .i64 o3] 52 (0, 0)) := by rw [hw]; exact hg
  refine wpList_store_row hgd 52 sx sy ho g _ hx hy 52 _ hg' (by rw [info52]; rfl) rfl (by simp [Value.oneCell']) ?_
  exact h _ (setRow_heap _ _ _ _ _ _ hg') ⟨rfl, rfl, rfl, by simp, fun k hk => setRow_other _ _ _ _ (by omega)⟩

set_option maxHeartbeats 1600000 in
theorem placeAt_any (P b off n cap ls pos : Nat) (z : Nat → Int) (bom line tokens : Int) (w : World) (hn : n ≤ 1048576)
    (hP0 : w.cell? ⟨P, 0, none⟩ = some (.slice (some ⟨b, off, none⟩) n cap)) (hP4 : w.cell? ⟨P, 4, none⟩ = some (.int .i64 bom)) (hlt : b < w.heap.size)
    (hc : ∀ i, i < n → w.cell? ⟨b, off + i, none⟩ = some (.int .u8 (z i))) (h1 : ls ≤ pos) (h2 : pos ≤ n) (hcap : n ≤ cap) (hls : ls < n) :
    Calls Try.prog 11 #[.pointer (some ⟨P, 0, none⟩), .agg #[.int .i64 pos, .int .i64 line, .int .i64 ls, .int .i64 tokens]] w fun e w' =>
      e = .returned (.agg #[.int .i64 line, .int .i64 (colOf z ls pos (line == bom)), .int .i64 pos]) ∧ Below w.heap.size w w' := by
  have hrow0 : Hid _ := CRow.part (by omega) hlt hc h1 h2
  have HP0 : Hid _ := hP0
  have HP4 : Hid _ := hP4
  clear hP0 hP4 hc hlt
  go_enter Try.func11, Try.ntmps11
  go_wp2
  have hB : Below w.heap.size w ((w.alloc (.cells #[.int .i64 pos, .int .i64 line, .int .i64 ls, .int .i64 tokens] 55)).alloc (.cells #[.int .i64 0, .int .i64 0, .int .i64 0] 52)) := ((Below.refl _ _).alloc (Nat.le_refl _) _).alloc (by simp) _
  have hC : ((w.alloc (.cells #[.int .i64 pos, .int .i64 line, .int .i64 ls, .int .i64 tokens] 55)).alloc (.cells #[.int .i64 0, .int .i64 0, .int .i64 0] 52)).heap[w.heap.size]? = some (.cells #[.int .i64 pos, .int .i64 line, .int .i64 ls, .int .i64 tokens] 55 (0, 0)) :=
    (heap_alloc_other _ _ _ (by simp)).trans (heap_alloc_self _ _ _)
  have hR : ((w.alloc (.cells #[.int .i64 pos, .int .i64 line, .int .i64 ls, .int .i64 tokens] 55)).alloc (.cells #[.int .i64 0, .int .i64 0, .int .i64 0] 52)).heap[w.heap.size + 1]? = some (.cells #[.int .i64 0, .int .i64 0, .int .i64 0] 52 (0, 0)) := by
    have h := heap_alloc_self (w.alloc (.cells #[.int .i64 pos, .int .i64 line, .int .i64 ls, .int .i64 tokens] 55)) #[.int .i64 0, .int .i64 0, .int .i64 0] 52
    simpa only [World.size_alloc] using h
  have HB : Hid _ := hB
  have q0 := cell_later hB HP0.out
  have q4 := cell_later hB HP4.out
  have hrow := CRow.later hrow0.out hB
  clear hrow0 hB HP0 HP4
  generalize (w.alloc (.cells #[.int .i64 pos, .int .i64 line, .int .i64 ls, .int .i64 tokens] 55)).alloc (.cells #[.int .i64 0, .int .i64 0, .int .i64 0] 52) = wA at *
  have k0 : wA.cell? ⟨w.heap.size, 0, none⟩ = some (.int .i64 pos) := by rw [cell_of_heap hC]; rfl
  have k1 : wA.cell? ⟨w.heap.size, 1, none⟩ = some (.int .i64 line) := by rw [cell_of_heap hC]; rfl
  have k2 : wA.cell? ⟨w.heap.size, 2, none⟩ = some (.int .i64 ls) := by rw [cell_of_heap hC]; rfl
  have HR : Hid _ := hR
  have HROW : Hid _ := hrow
  clear hC hR hrow
  have i1 : (ls : Int) ≤ (pos : Int) := by omega
  have i2 : (pos : Int) ≤ (cap : Int) := by omega
  have i3 : ¬ (cap = ls) := by omega
  have i4 : (0 : Int) ≤ (ls : Int) := by omega
  have i5 : (0 : Int) ≤ (pos : Int) := by omega
  go_quiet ((go_at_call 13; exact Calls.quiet_of_same (runes_any _ _ _ (from_ z ls) _ (CRow.later HROW.out (below_drewN (Below.refl _ _) _)))))
  have hcnt : cnt (from_ z ls) (pos - ls) ≤ 1048576 := Nat.le_trans (cnt_le _ _) (by omega)
  clear HROW
  have HCC : Hid (colOf z ls pos (line == bom) = (cnt (from_ z ls) (pos - ls) : Int) + 1 + (if (line == bom) then 1 else 0)) := rfl
  generalize cnt (from_ z ls) (pos - ls) = c at *
  have wr : wrap64 ((c : Int) + 1) = (c : Int) + 1 := by unfold wrap64; omega
  have wr2 : wrap64 ((c : Int) + 1 + 1) = (c : Int) + 1 + 1 := by unfold wrap64; omega
  rw [wr]
  cases he : (line == bom)
  · go_wp2
    go_quiet (fail)
    go_wp2_with (refine wp_store52 _ wA (.tmp 4) (.tmp 31) w.heap.size (w.heap.size + 1) _ _ _ _ _ _ rfl rfl rfl rfl rfl HR.out (by omega) ?_)
    intro w2 hr2 hb2
    have HR2 : Hid _ := hr2
    have HB2 : Hid _ := hb2
    clear hr2 hb2
    go_wp2
    have r0 : w2.cell? ⟨w.heap.size + 1, 0, none⟩ = some (.int .i64 line) := by rw [cell_of_heap HR2.out]; rfl
    have r1 : w2.cell? ⟨w.heap.size + 1, 1, none⟩ = some (.int .i64 ((c : Int) + 1)) := by rw [cell_of_heap HR2.out]; rfl
    have r2 : w2.cell? ⟨w.heap.size + 1, 2, none⟩ = some (.int .i64 pos) := by rw [cell_of_heap HR2.out]; rfl
    refine bodyPost_ret (v := .agg #[.int .i64 line, .int .i64 ((c : Int) + 1), .int .i64 pos]) (by simp [results, Try.results11, go_sem, r0, r1, r2]) rfl ⟨?_, ?_⟩
    · rw [HCC.out, he]; simp
    · exact (below_drewN HB.out _).trans HB2.out
  · go_wp2
    go_quiet (fail)
    go_wp2_with (refine wp_store52 _ wA (.tmp 4) (.tmp 31) w.heap.size (w.heap.size + 1) _ _ _ _ _ _ rfl rfl rfl rfl rfl HR.out (by omega) ?_)
    intro w2 hr2 hb2
    have HR2 : Hid _ := hr2
    have HB2 : Hid _ := hb2
    clear hr2 hb2
    go_wp2
    have r0 : w2.cell? ⟨w.heap.size + 1, 0, none⟩ = some (.int .i64 line) := by rw [cell_of_heap HR2.out]; rfl
    have r1 : w2.cell? ⟨w.heap.size + 1, 1, none⟩ = some (.int .i64 ((c : Int) + 1 + 1)) := by rw [cell_of_heap HR2.out]; rfl
    have r2 : w2.cell? ⟨w.heap.size + 1, 2, none⟩ = some (.int .i64 pos) := by rw [cell_of_heap HR2.out]; rfl
    refine bodyPost_ret (v := .agg #[.int .i64 line, .int .i64 ((c : Int) + 1 + 1), .int .i64 pos]) (by simp [results, Try.results11, go_sem, r0, r1, r2]) rfl ⟨?_, ?_⟩
    · rw [HCC.out, he]; simp
    · exact (below_drewN HB.out _).trans HB2.out

set_option maxHeartbeats 1600000 in
/-- ZZplaceAt. -/
theorem zzPlaceAt_any (P b off n cap ls pos : Nat) (z : Nat → Int) (bom line tokens : Int) (w : World) (hn : n ≤ 1048576)
    (hP0 : w.cell? ⟨P, 0, none⟩ = some (.slice (some ⟨b, off, none⟩) n cap)) (hP4 : w.cell? ⟨P, 4, none⟩ = some (.int .i64 bom)) (hlt : b < w.heap.size)
    (hc : ∀ i, i < n → w.cell? ⟨b, off + i, none⟩ = some (.int .u8 (z i))) (h1 : ls ≤ pos) (h2 : pos ≤ n) (hcap : n ≤ cap) (hls : ls < n) :
    Calls Try.prog 8 #[.pointer (some ⟨P, 0, none⟩), .int .i64 pos, .int .i64 line, .int .i64 ls, .int .i64 tokens] w fun e w' =>
      e = .returned (.tuple #[.int .i64 line, .int .i64 (colOf z ls pos (line == bom)), .int .i64 pos]) ∧ Below w.heap.size w w' := by
  have CT : Hid _ := placeAt_any P b off n cap ls pos z bom line tokens w hn hP0 hP4 hlt hc h1 h2 hcap hls
  clear hP0 hP4 hc hlt
  go_enter Try.func8, Try.ntmps8
  go_wp2_with fail
  refine Calls.mono CT.out ?_
  rintro e w1 ⟨rfl, hb⟩
  have HB : Hid _ := hb
  clear hb
  go_wp2_with (refine wp_store52 _ (w1.alloc (.cells #[.int .i64 0, .int .i64 0, .int .i64 0] 52)) (.tmp 13) (.tmp 20) w1.heap.size w1.heap.size _ _ _ _ _ _ rfl rfl rfl rfl rfl (heap_alloc_self _ _ _) (Nat.le_refl _) ?_)
  intro w2 hr2 hb2
  have HB2 : Hid _ := hb2
  have r0 : w2.cell? ⟨w1.heap.size, 0, none⟩ = some (.int .i64 line) := by rw [cell_of_heap hr2]; rfl
  have r1 : w2.cell? ⟨w1.heap.size, 1, none⟩ = some (.int .i64 (colOf z ls pos (line == bom))) := by rw [cell_of_heap hr2]; rfl
  have r2 : w2.cell? ⟨w1.heap.size, 2, none⟩ = some (.int .i64 pos) := by rw [cell_of_heap hr2]; rfl
  clear hr2 hb2
  go_wp2
  go_quiet (fail)
  go_wp2
  go_ret3
  exact ⟨rfl, below_drewN (below_call HB.out (((Below.refl _ _).alloc (Nat.le_refl _) _).trans HB2.out)) _⟩
end Go.Proofs.Qxb6612722a
