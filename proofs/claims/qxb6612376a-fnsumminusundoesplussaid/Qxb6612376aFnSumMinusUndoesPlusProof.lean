/-
  THE SHELL OF A PROOF OF 'Rows.FnSumMinusUndoesPlusSaid' ('example.com/armslength/armslength/zzlaws_internal_ledger_b1.FnSumMinusUndoesPlus'), WRITTEN BY PROGRAM (proof-skeleton.mjs) off the guide's own print for that function.
  THE WALK IS FILLED. ALL ELSE IS THE GUIDE's TEMPLATE (howto/template/XProofs.lean) at this function's number and types: leave it.
-/
import Derived.Test.Qxb6612376aRows
import Derived.WalkKit
import Derived.ProofKit
import Derived.OpenShut
import Derived.ShutString
import Derived.Carry
import Derived.Deep.RegionHeld3
import Derived.Test.Qxb6612376aSums
namespace Go.Proofs.Qxb6612376a.fnSumMinusUndoesPlus
open Go.ChangeShapes Go.WideShapes Go.ChangeAt Go.RowKit
open Go.ChangeMaps (open_string shut_string)
set_option linter.unusedVariables false      -- a walk need not use every 'w<i>' (that an integer argument fits its kind)

theorem own : ownKnob Try.prog.godebug = none := by kernel_rfl

theorem held_start {w W0 : World} {b1 b2 : Nat} {v0 v1 v2 v3 v4 v5 : Value} (q0 : W0.cell? ⟨b1, 0, none⟩ = some v0) (q1 : W0.cell? ⟨b1, 1, none⟩ = some v1) (q2 : W0.cell? ⟨b1, 2, none⟩ = some v2) (q3 : W0.cell? ⟨b2, 0, none⟩ = some v3) (q4 : W0.cell? ⟨b2, 1, none⟩ = some v4) (q5 : W0.cell? ⟨b2, 2, none⟩ = some v5) (hB : Below w.heap.size w W0) :
    Hid (W0.cell? ⟨b1, 0, none⟩ = some v0 ∧ W0.cell? ⟨b1, 1, none⟩ = some v1 ∧ W0.cell? ⟨b1, 2, none⟩ = some v2 ∧ W0.cell? ⟨b2, 0, none⟩ = some v3 ∧ W0.cell? ⟨b2, 1, none⟩ = some v4 ∧ W0.cell? ⟨b2, 2, none⟩ = some v5 ∧ Below w.heap.size w W0) := ⟨q0, q1, q2, q3, q4, q5, hB⟩
theorem held_drew {w W0 : World} {b1 b2 : Nat} {v0 v1 v2 v3 v4 v5 : Value} (h : Hid (W0.cell? ⟨b1, 0, none⟩ = some v0 ∧ W0.cell? ⟨b1, 1, none⟩ = some v1 ∧ W0.cell? ⟨b1, 2, none⟩ = some v2 ∧ W0.cell? ⟨b2, 0, none⟩ = some v3 ∧ W0.cell? ⟨b2, 1, none⟩ = some v4 ∧ W0.cell? ⟨b2, 2, none⟩ = some v5 ∧ Below w.heap.size w W0)) :
    W0.drew.cell? ⟨b1, 0, none⟩ = some v0 ∧ W0.drew.cell? ⟨b1, 1, none⟩ = some v1 ∧ W0.drew.cell? ⟨b1, 2, none⟩ = some v2 ∧ W0.drew.cell? ⟨b2, 0, none⟩ = some v3 ∧ W0.drew.cell? ⟨b2, 1, none⟩ = some v4 ∧ W0.drew.cell? ⟨b2, 2, none⟩ = some v5 ∧ Below w.heap.size w W0.drew := by
  obtain ⟨q0, q1, q2, q3, q4, q5, hB⟩ := h.out
  exact ⟨q0, q1, q2, q3, q4, q5, hB.drew⟩
theorem held_step {w w' w'' : World} {b1 b2 : Nat} {v0 v1 v2 v3 v4 v5 : Value} (h : w'.cell? ⟨b1, 0, none⟩ = some v0 ∧ w'.cell? ⟨b1, 1, none⟩ = some v1 ∧ w'.cell? ⟨b1, 2, none⟩ = some v2 ∧ w'.cell? ⟨b2, 0, none⟩ = some v3 ∧ w'.cell? ⟨b2, 1, none⟩ = some v4 ∧ w'.cell? ⟨b2, 2, none⟩ = some v5 ∧ Below w.heap.size w w')
    (hb : Below w'.heap.size w' w'') :
    w''.cell? ⟨b1, 0, none⟩ = some v0 ∧ w''.cell? ⟨b1, 1, none⟩ = some v1 ∧ w''.cell? ⟨b1, 2, none⟩ = some v2 ∧ w''.cell? ⟨b2, 0, none⟩ = some v3 ∧ w''.cell? ⟨b2, 1, none⟩ = some v4 ∧ w''.cell? ⟨b2, 2, none⟩ = some v5 ∧ Below w.heap.size w w'' := by
  obtain ⟨q0, q1, q2, q3, q4, q5, hB⟩ := h
  exact ⟨cell_later hb q0, cell_later hb q1, cell_later hb q2, cell_later hb q3, cell_later hb q4, cell_later hb q5, below_call hB hb⟩

/-! ### STEP 1: THE WALK: the Go text returns true. 'Below': nothing that was there has turned. -/
theorem walk (a0 : Int) (a1 : Int) (a2 : Int) (a3 : Int) (a4 : Int) (a5 : Int) (w0 : (Lit.int .u64 a0).wf = true) (w1 : (Lit.int .u64 a1).wf = true) (w2 : (Lit.int .i64 a2).wf = true) (w3 : (Lit.int .u64 a3).wf = true) (w4 : (Lit.int .u64 a4).wf = true) (w5 : (Lit.int .i64 a5).wf = true) (w : World) :
    Calls Try.prog 4 #[.int .u64 a0, .int .u64 a1, .int .i64 a2, .int .u64 a3, .int .u64 a4, .int .i64 a5] w fun e w' => e = .returned (.bool true) ∧ Below w.heap.size w w' := by
  obtain h1 := word_of_wf w0; obtain h2 := word_of_wf w1; obtain h3 := word_of_wf w3; obtain h4 := word_of_wf w4
  obtain ⟨n0, n1⟩ := int_of_wf w2
  clear w0 w1 w2 w3 w4 w5
  have e1 := back_lo a1 a4 h2 h4
  have e2 := back_hi a0 a1 a3 a4 h1 h2 h3 h4
  have e3 := wrap_back a2 a5 n0 n1
  have e4 := fwd_lo a1 a4 h2 h4
  have e5 := fwd_hi a0 a1 a3 a4 h1 h2 h3 h4
  have e6 := wrap_fwd a2 a5 n0 n1
  go_enter Try.func4, Try.ntmps4
  go_wp2_with fail
  refine (newSum_any a0 a1 a2 _).mono ?_
  rintro e w1 ⟨rfl, hb1⟩
  go_wp2_with fail
  refine (newSum_any a3 a4 a5 _).mono ?_
  rintro e w2 ⟨rfl, hb2⟩
  obtain ⟨hc2, hf2⟩ := bcell hb2
  have hz2 : w1.heap.size < w2.heap.size := by have := hb2.size; simp at this; omega
  go_wp2
  have q0 : (w2.alloc (.cells #[.int .u64 a3, .int .u64 a4, .int .i64 a5] 24)).cell? ⟨w1.heap.size, 0, none⟩ = some (.int .u64 a0) := by simp [go_sem, hz2, hc2]
  have q1 : (w2.alloc (.cells #[.int .u64 a3, .int .u64 a4, .int .i64 a5] 24)).cell? ⟨w1.heap.size, 1, none⟩ = some (.int .u64 a1) := by simp [go_sem, hz2, hc2]
  have q2 : (w2.alloc (.cells #[.int .u64 a3, .int .u64 a4, .int .i64 a5] 24)).cell? ⟨w1.heap.size, 2, none⟩ = some (.int .i64 a2) := by simp [go_sem, hz2, hc2]
  have q3 : (w2.alloc (.cells #[.int .u64 a3, .int .u64 a4, .int .i64 a5] 24)).cell? ⟨w2.heap.size, 0, none⟩ = some (.int .u64 a3) := by simp
  have q4 : (w2.alloc (.cells #[.int .u64 a3, .int .u64 a4, .int .i64 a5] 24)).cell? ⟨w2.heap.size, 1, none⟩ = some (.int .u64 a4) := by simp
  have q5 : (w2.alloc (.cells #[.int .u64 a3, .int .u64 a4, .int .i64 a5] 24)).cell? ⟨w2.heap.size, 2, none⟩ = some (.int .i64 a5) := by simp
  have hB : Below w.heap.size w (w2.alloc (.cells #[.int .u64 a3, .int .u64 a4, .int .i64 a5] 24)) := (below_alloc_call hb1 hb2).alloc (below_alloc_call hb1 hb2).size _
  clear hb1 hb2 hc2 hf2 hz2
  generalize w2.alloc (.cells #[.int .u64 a3, .int .u64 a4, .int .i64 a5] 24) = W0 at *
  generalize w1.heap.size = b1 at *
  generalize w2.heap.size = b2 at *
  have hS := held_start q0 q1 q2 q3 q4 q5 hB
  clear q0 q1 q2 q3 q4 q5 hB
  go_region_held3 (fun w' => w'.cell? ⟨b1, 0, none⟩ = some (.int .u64 a0) ∧ w'.cell? ⟨b1, 1, none⟩ = some (.int .u64 a1) ∧ w'.cell? ⟨b1, 2, none⟩ = some (.int .i64 a2) ∧ w'.cell? ⟨b2, 0, none⟩ = some (.int .u64 a3) ∧ w'.cell? ⟨b2, 1, none⟩ = some (.int .u64 a4) ∧ w'.cell? ⟨b2, 2, none⟩ = some (.int .i64 a5) ∧ Below w.heap.size w w')
    (first | exact held_drew hS | exact held_step (by assumption) (by assumption))
    (first
      | (go_at_call 11; refine (zzplus_any a0 a1 a2 a3 a4 a5 h1 h2 h3 h4 _).mono ?_; rintro e w' ⟨rfl, hb⟩)
      | (go_at_call 9; refine (zzminus_any _ _ _ a3 a4 a5 (word_mod _) (word_mod _) h3 h4 _).mono ?_; rintro e w' ⟨rfl, hb⟩)
      | (go_at_call 8; refine (parts_any _ _ _ _).mono ?_; rintro e w' ⟨rfl, hb⟩))
  rename_i hS1
  have hS2 : Hid _ := hS1
  clear hS1 hS
  go_wp2
  go_region_held3 (fun w' => w'.cell? ⟨b1, 0, none⟩ = some (.int .u64 a0) ∧ w'.cell? ⟨b1, 1, none⟩ = some (.int .u64 a1) ∧ w'.cell? ⟨b1, 2, none⟩ = some (.int .i64 a2) ∧ w'.cell? ⟨b2, 0, none⟩ = some (.int .u64 a3) ∧ w'.cell? ⟨b2, 1, none⟩ = some (.int .u64 a4) ∧ w'.cell? ⟨b2, 2, none⟩ = some (.int .i64 a5) ∧ Below w.heap.size w w')
    (first | exact held_drew hS2 | exact held_step (by assumption) (by assumption))
    (first
      | (go_at_call 9; refine (zzminus_any a0 a1 a2 a3 a4 a5 h1 h2 h3 h4 _).mono ?_; rintro e w' ⟨rfl, hb⟩)
      | (go_at_call 11; refine (zzplus_any _ _ _ a3 a4 a5 (word_mod _) (word_mod _) h3 h4 _).mono ?_; rintro e w' ⟨rfl, hb⟩)
      | (go_at_call 8; refine (parts_any _ _ _ _).mono ?_; rintro e w' ⟨rfl, hb⟩))
  rename_i hS3
  have hB := hS3.2.2.2.2.2.2
  clear hS3
  go_wp2
  go_ret
  exact ⟨rfl, hB⟩

/-! ### THE ROW's STEP: WRITTEN OUT: LEAVE IT -/
set_option maxRecDepth 100000 in
theorem lifted (os : Os) (started : os.Started) (H : Type) (enc : TypeId × Value → H) :
    ReturnsInHanded {} Try.checked os 4 .any (Rows.fnSumMinusUndoesPlusSpec.pre6 enc Try.prog Try.f4 Rows.fnSumMinusUndoesPlusRow.domain false) (Rows.fnSumMinusUndoesPlusSpec.post enc Try.prog Try.f4 false true false false) := by
  refine returnsInHanded_of_change (C := Try.checked) own started (by kernel_rfl) Try.func4
    (ChangeSpec.witness6 (enc := enc) (C := Try.checked) false ⟨#[], #[.int .u64 0, .int .u64 0, .int .i64 0, .int .u64 0, .int .u64 0, .int .i64 0], []⟩ 8 (by kernel_rfl) (by kernel_rfl) (by kernel_rfl) (by kernel_rfl)) ?_
  intro W base args ds gs before hval0 hW hcnd _
  have hval : ∀ (j : Nat) t v, Try.f4.params[j]? = some t → args[j]? = some v → Value.okWide Try.prog W .any base t v := hval0
  have hW' := hW
  obtain ⟨p, q, hA0, hV, rfl, hfz, hnd⟩ := hW
  have hA : DataW.TrodAll enc Try.prog W 0 (fun _ => true) true Try.f4.params.toList args.toList ds p := hA0
  rw [Try.params4] at hA hval
  obtain ⟨v0, vs0, d0, ds0, p0, q0, hargs, rfl, rfl, h0, r0⟩ := trodAll_cons hA
  obtain ⟨v1, vs1, d1, ds1, p1, q1, rfl, rfl, rfl, h1, r1⟩ := trodAll_cons r0
  obtain ⟨v2, vs2, d2, ds2, p2, q2, rfl, rfl, rfl, h2, r2⟩ := trodAll_cons r1
  obtain ⟨v3, vs3, d3, ds3, p3, q3, rfl, rfl, rfl, h3, r3⟩ := trodAll_cons r2
  obtain ⟨v4, vs4, d4, ds4, p4, q4, rfl, rfl, rfl, h4, r4⟩ := trodAll_cons r3
  obtain ⟨v5, vs5, d5, ds5, p5, q5, rfl, rfl, rfl, h5, r5⟩ := trodAll_cons r4
  obtain ⟨rfl, rfl, rfl⟩ := trodAll_nil r5
  obtain rfl : args = #[v0, v1, v2, v3, v4, v5] := by cases args; simp_all
  obtain ⟨rfl, rfl⟩ := trodVars_none hV
  obtain ⟨a0, rfl, rfl, rfl, w0⟩ := open_int Try.underlying22 (hval 0 22 v0 rfl rfl) h0
  obtain ⟨a1, rfl, rfl, rfl, w1⟩ := open_int Try.underlying22 (hval 1 22 v1 rfl rfl) h1
  obtain ⟨a2, rfl, rfl, rfl, w2⟩ := open_int Try.underlying3 (hval 2 3 v2 rfl rfl) h2
  obtain ⟨a3, rfl, rfl, rfl, w3⟩ := open_int Try.underlying22 (hval 3 22 v3 rfl rfl) h3
  obtain ⟨a4, rfl, rfl, rfl, w4⟩ := open_int Try.underlying22 (hval 4 22 v4 rfl rfl) h4
  obtain ⟨a5, rfl, rfl, rfl, w5⟩ := open_int Try.underlying3 (hval 5 3 v5 rfl rfl) h5
  clear hA0 hval0
  simp only [List.append_nil] at hW'
  refine (walk a0 a1 a2 a3 a4 a5 w0 w1 w2 w3 w4 w5 W).mono fun e W' ⟨he, bel⟩ => ?_
  subst he
  exact ⟨_, rfl, _, _, _, [], _, [], hW', trodAll_mk1 (shut_bool Try.underlying4 _), (trodAll_cons_mk (shut_int Try.underlying22 w0) (trodAll_cons_mk (shut_int Try.underlying22 w1) (trodAll_cons_mk (shut_int Try.underlying3 w2) (trodAll_cons_mk (shut_int Try.underlying22 w3) (trodAll_cons_mk (shut_int Try.underlying22 w4) (trodAll_cons_mk (shut_int Try.underlying3 w5) trodAll_mk0)))))), rfl, bel.frame _, fun h => by cases h⟩

theorem over : Rows.fnSumMinusUndoesPlusRow.holds Try.pinned (OpenSpec.ofChange Rows.fnSumMinusUndoesPlusSpec) :=
  OpenClaim.holds_of_wide 4 Try.f4 rfl rfl rfl rfl rfl rfl rfl ⟨rfl, rfl, rfl, rfl, rfl⟩ rfl rfl rfl rfl rfl (by kernel_rfl) Try.func4 (by kernel_rfl)
    (of_decide_eq_true (by kernel_rfl)) (by unfold Func.isWrapper; first | (rw [if_pos (by decide +kernel)]; kernel_rfl) | (rw [if_neg (by decide +kernel)]; exact ⟨rfl, rfl⟩))
    (fun os started H enc _ => lifted os started H enc)

/-- ████ THE STATEMENT ████ -/
theorem proved : Rows.FnSumMinusUndoesPlusSaid :=
  over
#print axioms proved
end Go.Proofs.Qxb6612376a.fnSumMinusUndoesPlus
