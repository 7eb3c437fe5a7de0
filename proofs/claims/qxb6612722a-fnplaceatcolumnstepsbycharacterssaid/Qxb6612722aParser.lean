/-
  THE WALKS OF newParser AND ZZnewParserAt.
-/
import Derived.Test.Qxb6612722aClone
import Derived.Laws.Tables
namespace Go.Proofs.Qxb6612722a
open Go.RowKit

/-- The parser's cells as newParser builds them. -/
theorem built_parser (a : Option Addr) (n cap : Nat) : ∃ cs : Array Value, Try.prog.built 50 [(0, .slice a n cap), (2, .int .i64 1), (12, .int .i64 (-1)), (13, .bool false), (16, .nilFunc)] = some cs ∧ cs.size = 34 ∧ cs[0]? = some (.slice a n cap) := by
  have h : (Try.prog.built 50 [(0, .slice a n cap), (2, .int .i64 1), (12, .int .i64 (-1)), (13, .bool false), (16, .nilFunc)]).map (fun cs => (cs.size, cs[0]?)) = some (34, some (.slice a n cap)) := by kernel_rfl
  cases hb : Try.prog.built 50 [(0, .slice a n cap), (2, .int .i64 1), (12, .int .i64 (-1)), (13, .bool false), (16, .nilFunc)] with
  | none => rw [hb] at h; cases h
  | some cs =>
    rw [hb] at h
    simp only [Option.map_some, Option.some.injEq, Prod.mk.injEq] at h
    exact ⟨cs, rfl, h.1, h.2⟩

theorem box_cells (cs : Array Value) (w : World) : (Instr.box 50 (.agg cs)).run Try.prog w = .ok (.pointer (some ⟨w.heap.size, 0, none⟩)) (w.alloc (.cells cs 50)) := by rfl

theorem wp_parser (w : World) {ops : Array Oper} {rest : List Oper} {o : Oper} {a : Act} {Q : Exit → Act → World → Prop} {ad : Option Addr} {n cap : Nat} {cs : Array Value} (hgd : o.guard = none)
    (ho : o.op = .build 50 #[(0, .tmp 8), (2, .const (.int .i64 1)), (12, .const (.int .i64 (-1))), (13, .tmp 9), (16, .tmp 10)])
    (h8 : a.eval (.tmp 8) = .slice ad n cap) (h9 : a.eval (.tmp 9) = .bool false) (h10 : a.eval (.tmp 10) = .nilFunc)
    (hb : Try.prog.built 50 [(0, .slice ad n cap), (2, .int .i64 1), (12, .int .i64 (-1)), (13, .bool false), (16, .nilFunc)] = some cs)
    (h : wpList Try.prog ops Q rest (a.put o.dst (.agg cs)) w) : wpList Try.prog ops Q (o :: rest) a w := by
  have e : (Array.map (fun (x : Nat × Operand) => (x.1, a.eval x.2)) #[(0, Operand.tmp 8), (2, .const (.int .i64 1)), (12, .const (.int .i64 (-1))), (13, .tmp 9), (16, .tmp 10)]).toList = [(0, .slice ad n cap), (2, .int .i64 1), (12, .int .i64 (-1)), (13, .bool false), (16, .nilFunc)] := by
    simp only [List.map_toArray, List.map_cons, List.map_nil, h8, h9, h10]
    rfl
  refine wpList_build hgd 50 _ ho ?_ ?_
  · exact (congrArg (fun l => (Try.prog.built 50 l).isSome) e).trans (by rw [hb]; rfl)
  · have e2 := (congrArg (fun l => (Try.prog.built 50 l).getD #[]) e).trans (show _ = cs by rw [hb]; rfl)
    exact (congrArg (fun c => wpList Try.prog ops Q rest (a.put o.dst (.agg c)) w) e2).mpr h

set_option maxHeartbeats 1000000 in
set_option maxRecDepth 100000 in
/-- newParser without locations. -/
theorem newParser_any (a : Option Addr) (n cap : Nat) (w : World) :
    Calls Try.prog 10 #[.slice a n cap, .nilFunc, .bool false] w fun e w' => ∃ cs : Array Value, e = .returned (.pointer (some ⟨w.heap.size, 0, none⟩)) ∧ cs.size = 34 ∧ cs[0]? = some (.slice a n cap) ∧ w' = w.alloc (.cells cs 50) := by
  obtain ⟨cs, hb, h1, h2⟩ := built_parser a n cap
  have hx := box_cells cs
  have H1 : Hid _ := h1
  have H2 : Hid _ := h2
  have HB : Hid _ := hb
  clear hb h1 h2
  go_enter Try.func10, Try.ntmps10
  go_wp2_with (refine wp_parser _ rfl rfl rfl rfl rfl HB.out ?_)
  go_wp2
  go_ret
  exact ⟨cs, rfl, H1.out, H2.out, rfl⟩

/-- The parser's block. -/
def PIs (w : World) (P : Nat) (cs : Array Value) : Prop := w.heap[P]? = some (.cells cs 50 (0, 0)) ∧ cs.size = 34
theorem PIs.set {w : World} {P : Nat} {cs : Array Value} (h : PIs w P cs) (k : Nat) (v : Value) : PIs (w.setCell ⟨P, k, none⟩ v) P (cs.setIfInBounds k v) :=
  ⟨heap_setCell_same w P k cs 50 v h.1, by simpa using h.2⟩
theorem PIs.at {w : World} {P : Nat} {cs : Array Value} (h : PIs w P cs) (k : Nat) (hk : k < 34) : ∃ x, w.cell? ⟨P, k, none⟩ = some x ∧ w.frozen? ⟨P, k, none⟩ = false :=
  ⟨cs[k]'(by have := h.2; omega), by rw [cell_of_heap h.1]; exact Array.getElem?_eq_getElem _, frozen_of_heap h.1 k⟩

set_option maxHeartbeats 4000000 in
set_option maxRecDepth 100000 in
/-- ZZnewParserAt: a new block whose cell 0 holds src and cell 4 bomLine. -/
theorem newParserAt_any (a : Option Addr) (n cap : Nat) (bom pos line ls : Int) (w : World) :
    Calls Try.prog 7 #[.slice a n cap, .int .i64 bom, .int .i64 pos, .int .i64 line, .int .i64 ls] w fun e w' => ∃ P, e = .returned (.pointer (some ⟨P, 0, none⟩)) ∧ w'.cell? ⟨P, 0, none⟩ = some (.slice a n cap) ∧ w'.cell? ⟨P, 4, none⟩ = some (.int .i64 bom) ∧ P < w'.heap.size ∧ Below w.heap.size w w' := by
  go_enter Try.func7, Try.ntmps7
  go_wp2_with fail
  refine (newParser_any a n cap w).mono ?_
  rintro e w1 ⟨cs, rfl, h1, h2, rfl⟩
  have hB : Below w.heap.size w (w.alloc (.cells cs 50)) := (Below.refl _ _).alloc (Nat.le_refl _) _
  have p1 : PIs (w.alloc (.cells cs 50)) w.heap.size cs := ⟨heap_alloc_self _ _ _, h1⟩
  generalize w.alloc (.cells cs 50) = w1 at *
  have hB' : Hid _ := hB
  generalize hP : w.heap.size = P at *
  have p2 := p1.set 4 (.int .i64 bom)
  have p3 := p2.set 1 (.int .i64 pos)
  have p4 := p3.set 2 (.int .i64 line)
  have p5 := p4.set 3 (.int .i64 ls)
  obtain ⟨x1, q1, f1⟩ := p1.at 4 (by omega)
  obtain ⟨x2, q2, f2⟩ := p2.at 1 (by omega)
  obtain ⟨x3, q3, f3⟩ := p3.at 2 (by omega)
  obtain ⟨x4, q4, f4⟩ := p4.at 3 (by omega)
  have P5 : Hid _ := p5
  have H2 : Hid _ := h2
  have H1 : Hid _ := h1
  clear p1 p2 p3 p4 p5 hB h1 h2
  go_wp2
  go_ret
  have hb1 := H1.out
  rw [hP]
  refine ⟨P, rfl, ?_, ?_, lt_of_heap P5.out.1, ((((hB'.out).setCell (p := ⟨P, 4, none⟩) (Nat.le_refl _) _).setCell (p := ⟨P, 1, none⟩) (Nat.le_refl _) _).setCell (p := ⟨P, 2, none⟩) (Nat.le_refl _) _).setCell (p := ⟨P, 3, none⟩) (Nat.le_refl _) _⟩
  · rw [cell_of_heap P5.out.1]
    simpa [Array.getElem?_setIfInBounds] using H2.out
  · rw [cell_of_heap P5.out.1]
    simp [hb1]
end Go.Proofs.Qxb6612722a
