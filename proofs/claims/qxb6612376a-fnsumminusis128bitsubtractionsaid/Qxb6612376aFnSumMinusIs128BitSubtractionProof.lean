/-
  THE SHELL OF A PROOF OF 'Rows.FnSumMinusIs128BitSubtractionSaid' ('example.com/armslength/armslength/zzlaws_internal_ledger_b1.FnSumMinusIs128BitSubtraction'), WRITTEN BY PROGRAM (proof-skeleton.mjs) off the guide's own print for that function.
  THE WALK IS FILLED. ALL ELSE IS THE GUIDE's TEMPLATE (howto/template/XProofs.lean) at this function's number and types: leave it.
-/
import Derived.Test.Qxb6612376aRows
import Derived.WalkKit
import Derived.ProofKit
import Derived.OpenShut
import Derived.ShutString
import Derived.Carry
import Derived.Test.Qxb6612376aSums
namespace Go.Proofs.Qxb6612376a.fnSumMinusIs128BitSubtraction
open Go.ChangeShapes Go.WideShapes Go.ChangeAt Go.RowKit
open Go.ChangeMaps (open_string shut_string)
set_option linter.unusedVariables false      -- a walk need not use every 'w<i>' (that an integer argument fits its kind)

theorem own : ownKnob Try.prog.godebug = none := by kernel_rfl

/-! ### STEP 1: THE WALK: the Go text returns true. 'Below': nothing that was there has turned. -/
theorem walk (a0 : Int) (a1 : Int) (a2 : Int) (a3 : Int) (a4 : Int) (a5 : Int) (w0 : (Lit.int .u64 a0).wf = true) (w1 : (Lit.int .u64 a1).wf = true) (w2 : (Lit.int .i64 a2).wf = true) (w3 : (Lit.int .u64 a3).wf = true) (w4 : (Lit.int .u64 a4).wf = true) (w5 : (Lit.int .i64 a5).wf = true) (w : World) :
    Calls Try.prog 3 #[.int .u64 a0, .int .u64 a1, .int .i64 a2, .int .u64 a3, .int .u64 a4, .int .i64 a5] w fun e w' => e = .returned (.bool true) ∧ Below w.heap.size w w' := by
  obtain h1 := word_of_wf w0; obtain h2 := word_of_wf w1; obtain h3 := word_of_wf w3; obtain h4 := word_of_wf w4
  obtain ⟨n0, n1⟩ := int_of_wf w5
  clear w0 w1 w2 w3 w4 w5
  have en := wrap_not a2 a5 n0 n1
  have hs : IntKind.i64.signed = true := rfl
  go_enter Try.func3, Try.ntmps3
  go_wp2_with fail
  refine (newSum_any a0 a1 a2 _).mono ?_
  rintro e w1 ⟨rfl, hb1⟩
  go_wp2_with fail
  refine (newSum_any a3 a4 a5 _).mono ?_
  rintro e w2 ⟨rfl, hb2⟩
  obtain ⟨hc2, hf2⟩ := bcell hb2
  have hz2 : w1.heap.size < w2.heap.size := by have := hb2.size; simp at this; omega
  go_wp2_with fail
  refine (zzminus_any a0 a1 a2 a3 a4 a5 h1 h2 h3 h4 _).mono ?_
  rintro e w3 ⟨rfl, hb3⟩
  go_wp2_with fail
  refine (parts_any _ _ _ _).mono ?_
  rintro e w4 ⟨rfl, hb4⟩
  go_wp2_with fail
  refine (sub128_any a0 a1 a3 a4 h1 h2 h3 h4 _).mono ?_
  rintro e w5 ⟨rfl, rfl⟩
  go_wp2
  go_ret
  exact ⟨rfl, below_call (below_alloc_call (below_alloc_call hb1 hb2) hb3) hb4⟩

/-! ### THE ROW's STEP: WRITTEN OUT: LEAVE IT -/
set_option maxRecDepth 100000 in
theorem lifted (os : Os) (started : os.Started) (H : Type) (enc : TypeId × Value → H) :
    ReturnsInHanded {} Try.checked os 3 .any (Rows.fnSumMinusIs128BitSubtractionSpec.pre6 enc Try.prog Try.f3 Rows.fnSumMinusIs128BitSubtractionRow.domain false) (Rows.fnSumMinusIs128BitSubtractionSpec.post enc Try.prog Try.f3 false true false false) := by
  refine returnsInHanded_of_change (C := Try.checked) own started (by kernel_rfl) Try.func3
    (ChangeSpec.witness6 (enc := enc) (C := Try.checked) false ⟨#[], #[.int .u64 0, .int .u64 0, .int .i64 0, .int .u64 0, .int .u64 0, .int .i64 0], []⟩ 8 (by kernel_rfl) (by kernel_rfl) (by kernel_rfl) (by kernel_rfl)) ?_
  intro W base args ds gs before hval0 hW hcnd _
  have hval : ∀ (j : Nat) t v, Try.f3.params[j]? = some t → args[j]? = some v → Value.okWide Try.prog W .any base t v := hval0
  have hW' := hW
  obtain ⟨p, q, hA0, hV, rfl, hfz, hnd⟩ := hW
  have hA : DataW.TrodAll enc Try.prog W 0 (fun _ => true) true Try.f3.params.toList args.toList ds p := hA0
  rw [Try.params3] at hA hval
  obtain ⟨v0, vs0, d0, ds0, p0, q0, hargs, rfl, rfl, h0, r0⟩ := trodAll_cons hA
  obtain ⟨v1, vs1, d1, ds1, p1, q1, rfl, rfl, rfl, h1, r1⟩ := trodAll_cons r0
  obtain ⟨v2, vs2, d2, ds2, p2, q2, rfl, rfl, rfl, h2, r2⟩ := trodAll_cons r1
  obtain ⟨v3, vs3, d3, ds3, p3, q3, rfl, rfl, rfl, h3, r3⟩ := trodAll_cons r2
  obtain ⟨v4, vs4, d4, ds4, p4, q4, rfl, rfl, rfl, h4, r4⟩ := trodAll_cons r3
  obtain ⟨v5, vs5, d5, ds5, p5, q5, rfl, rfl, rfl, h5, r5⟩ := trodAll_cons r4
  obtain ⟨rfl, rfl, rfl⟩ := trodAll_nil r5
  obtain rfl : args = #[v0, v1, v2, v3, v4, v5] := by cases args; simp_all
  obtain ⟨rfl, rfl⟩ := trodVars_none hV
  obtain ⟨a0, rfl, rfl, rfl, w0⟩ := open_int Try.underlying22 (hval 0 22 v0 rfl rfl) h0
  obtain ⟨a1, rfl, rfl, rfl, w1⟩ := open_int Try.underlying22 (hval 1 22 v1 rfl rfl) h1
  obtain ⟨a2, rfl, rfl, rfl, w2⟩ := open_int Try.underlying3 (hval 2 3 v2 rfl rfl) h2
  obtain ⟨a3, rfl, rfl, rfl, w3⟩ := open_int Try.underlying22 (hval 3 22 v3 rfl rfl) h3
  obtain ⟨a4, rfl, rfl, rfl, w4⟩ := open_int Try.underlying22 (hval 4 22 v4 rfl rfl) h4
  obtain ⟨a5, rfl, rfl, rfl, w5⟩ := open_int Try.underlying3 (hval 5 3 v5 rfl rfl) h5
  clear hA0 hval0
  simp only [List.append_nil] at hW'
  refine (walk a0 a1 a2 a3 a4 a5 w0 w1 w2 w3 w4 w5 W).mono fun e W' ⟨he, bel⟩ => ?_
  subst he
  exact ⟨_, rfl, _, _, _, [], _, [], hW', trodAll_mk1 (shut_bool Try.underlying4 _), (trodAll_cons_mk (shut_int Try.underlying22 w0) (trodAll_cons_mk (shut_int Try.underlying22 w1) (trodAll_cons_mk (shut_int Try.underlying3 w2) (trodAll_cons_mk (shut_int Try.underlying22 w3) (trodAll_cons_mk (shut_int Try.underlying22 w4) (trodAll_cons_mk (shut_int Try.underlying3 w5) trodAll_mk0)))))), rfl, bel.frame _, fun h => by cases h⟩

theorem over : Rows.fnSumMinusIs128BitSubtractionRow.holds Try.pinned (OpenSpec.ofChange Rows.fnSumMinusIs128BitSubtractionSpec) :=
  OpenClaim.holds_of_wide 3 Try.f3 rfl rfl rfl rfl rfl rfl rfl ⟨rfl, rfl, rfl, rfl, rfl⟩ rfl rfl rfl rfl rfl (by kernel_rfl) Try.func3 (by kernel_rfl)
    (of_decide_eq_true (by kernel_rfl)) (by unfold Func.isWrapper; first | (rw [if_pos (by decide +kernel)]; kernel_rfl) | (rw [if_neg (by decide +kernel)]; exact ⟨rfl, rfl⟩))
    (fun os started H enc _ => lifted os started H enc)

/-- ████ THE STATEMENT ████ -/
theorem proved : Rows.FnSumMinusIs128BitSubtractionSaid :=
  over
#print axioms proved
end Go.Proofs.Qxb6612376a.fnSumMinusIs128BitSubtraction
