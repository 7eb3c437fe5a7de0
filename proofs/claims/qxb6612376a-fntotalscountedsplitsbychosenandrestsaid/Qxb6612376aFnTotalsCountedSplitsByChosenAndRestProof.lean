/-
  THE PROOF OF 'Rows.FnTotalsCountedSplitsByChosenAndRestSaid': the walks and the row's step.
-/
import Derived.Test.Qxb6612376aSplits
import Derived.Test.Qxb6612376aOpen
import Derived.WalkKit
import Derived.ProofKit
import Derived.OpenShut
import Derived.ShutString
import Derived.Carry
namespace Go.Proofs.Qxb6612376a.fnTotalsCountedSplitsByChosenAndRest
open Go.ChangeShapes Go.WideShapes Go.ChangeAt Go.RowKit
set_option linter.unusedVariables false

theorem own : ownKnob Try.prog.godebug = none := by kernel_rfl
theorem laidOut : laidOutB Try.prog = true := by kernel_rfl

theorem walk (a0 a1 a2 a3 a4 : Option Addr) (n0 n1 n2 n3 n4 c0 c1 c2 c3 c4 : Nat) (f fc : Nat → ByteArray) (hi lo ns : Nat → Int) (w : World)
    (r0 : CRow w a0 n0 (fun i => .string (f i))) (r1 : CRow w a1 n1 (fun i => .int .u64 (hi i))) (r2 : CRow w a2 n2 (fun i => .int .u64 (lo i))) (r3 : CRow w a3 n3 (fun i => .int .i64 (ns i))) (r4 : CRow w a4 n4 (fun i => .string (fc i)))
    (whi : ∀ i, Word (hi i)) (wlo : ∀ i, Word (lo i)) :
    Calls Try.prog 6 #[.slice a0 n0 c0, .slice a1 n1 c1, .slice a2 n2 c2, .slice a3 n3 c3, .slice a4 n4 c4] w fun e w' => e = .returned (.bool true) ∧ Below w.heap.size w w' := by
  by_cases h : n1 = n0 ∧ n2 = n0 ∧ n3 = n0 ∧ n0 ≤ 4096 ∧ n4 ≤ 4096
  · obtain ⟨rfl, rfl, rfl, hn, hm⟩ := h
    exact splits_main a0 a1 a2 a3 a4 n3 n4 c0 c1 c2 c3 c4 f fc hi lo ns w hn hm r0 r1 r2 r3 r4 whi wlo
  · exact splits_early a0 a1 a2 a3 a4 n0 n1 n2 n3 n4 c0 c1 c2 c3 c4 f fc w r0 r4 h

/-! ### THE ROW's STEP -/
set_option maxRecDepth 100000 in
theorem lifted (os : Os) (started : os.Started) (H : Type) (enc : TypeId × Value → H) :
    ReturnsInHanded {} Try.checked os 6 .any (Rows.fnTotalsCountedSplitsByChosenAndRestSpec.pre6 enc Try.prog Try.f6 Rows.fnTotalsCountedSplitsByChosenAndRestRow.domain false) (Rows.fnTotalsCountedSplitsByChosenAndRestSpec.post enc Try.prog Try.f6 false true false false) := by
  refine returnsInHanded_of_change (C := Try.checked) own started (by kernel_rfl) Try.func6
    (ChangeSpec.witness6 (enc := enc) (C := Try.checked) false ⟨#[], #[.slice none 0 0, .slice none 0 0, .slice none 0 0, .slice none 0 0, .slice none 0 0], []⟩ 8 (by kernel_rfl) (by kernel_rfl) (by kernel_rfl) (by kernel_rfl)) ?_
  intro W base args ds gs before hval0 hW hcnd _
  have hval : ∀ (j : Nat) t v, Try.f6.params[j]? = some t → args[j]? = some v → Value.okWide Try.prog W .any base t v := hval0
  have hW' := hW
  obtain ⟨p, q, hA0, hV, rfl, hfz, hnd⟩ := hW
  have hA : DataW.TrodAll enc Try.prog W 0 (fun _ => true) true Try.f6.params.toList args.toList ds p := hA0
  rw [Try.params6] at hA hval
  obtain ⟨v0, vs0, d0, ds0, p0, q0, hargs, rfl, rfl, h0, r0⟩ := trodAll_cons hA
  obtain ⟨v1, vs1, d1, ds1, p1, q1, rfl, rfl, rfl, h1, r1⟩ := trodAll_cons r0
  obtain ⟨v2, vs2, d2, ds2, p2, q2, rfl, rfl, rfl, h2, r2⟩ := trodAll_cons r1
  obtain ⟨v3, vs3, d3, ds3, p3, q3, rfl, rfl, rfl, h3, r3⟩ := trodAll_cons r2
  obtain ⟨v4, vs4, d4, ds4, p4, q4, rfl, rfl, rfl, h4, r4⟩ := trodAll_cons r3
  obtain ⟨rfl, rfl, rfl⟩ := trodAll_nil r4
  obtain rfl : args = #[v0, v1, v2, v3, v4] := by cases args; simp_all
  obtain ⟨rfl, rfl⟩ := trodVars_none hV
  obtain ⟨a0, len0, cap0, rfl⟩ := okWide_slice Try.underlying32 (hval 0 32 v0 rfl rfl)
  have k0 := h0
  have lt0 : ∀ x ∈ p0, x.block < W.heap.size := by obtain ⟨m, hm⟩ := k0; exact DataW.trod_lt m _ _ _ hm
  obtain ⟨f0, s0⟩ : ∃ f : Nat → ByteArray, CRow W a0 len0 (fun i => .string (f i)) := by
    obtain ⟨fuel, hf⟩ := h0
    exact crow_strs Try.underlying32 Try.underlying9 (by kernel_rfl) hf
  obtain ⟨a1, len1, cap1, rfl⟩ := okWide_slice Try.underlying33 (hval 1 33 v1 rfl rfl)
  have k1 := h1
  have lt1 : ∀ x ∈ p1, x.block < W.heap.size := by obtain ⟨m, hm⟩ := k1; exact DataW.trod_lt m _ _ _ hm
  obtain ⟨z1, s1, w1⟩ : ∃ z : Nat → Int, CRow W a1 len1 (fun i => .int .u64 (z i)) ∧ ∀ i, (Lit.int .u64 (z i)).wf = true := by
    obtain ⟨fuel, hf⟩ := h1
    exact crow_ints Try.underlying33 Try.underlying22 (by kernel_rfl) hf (by decide)
  obtain ⟨a2, len2, cap2, rfl⟩ := okWide_slice Try.underlying33 (hval 2 33 v2 rfl rfl)
  have k2 := h2
  have lt2 : ∀ x ∈ p2, x.block < W.heap.size := by obtain ⟨m, hm⟩ := k2; exact DataW.trod_lt m _ _ _ hm
  obtain ⟨z2, s2, w2⟩ : ∃ z : Nat → Int, CRow W a2 len2 (fun i => .int .u64 (z i)) ∧ ∀ i, (Lit.int .u64 (z i)).wf = true := by
    obtain ⟨fuel, hf⟩ := h2
    exact crow_ints Try.underlying33 Try.underlying22 (by kernel_rfl) hf (by decide)
  obtain ⟨a3, len3, cap3, rfl⟩ := okWide_slice Try.underlying34 (hval 3 34 v3 rfl rfl)
  have k3 := h3
  have lt3 : ∀ x ∈ p3, x.block < W.heap.size := by obtain ⟨m, hm⟩ := k3; exact DataW.trod_lt m _ _ _ hm
  obtain ⟨z3, s3, w3⟩ : ∃ z : Nat → Int, CRow W a3 len3 (fun i => .int .i64 (z i)) ∧ ∀ i, (Lit.int .i64 (z i)).wf = true := by
    obtain ⟨fuel, hf⟩ := h3
    exact crow_ints Try.underlying34 Try.underlying3 (by kernel_rfl) hf (by decide)
  obtain ⟨a4, len4, cap4, rfl⟩ := okWide_slice Try.underlying32 (hval 4 32 v4 rfl rfl)
  have k4 := h4
  have lt4 : ∀ x ∈ p4, x.block < W.heap.size := by obtain ⟨m, hm⟩ := k4; exact DataW.trod_lt m _ _ _ hm
  obtain ⟨f4, s4⟩ : ∃ f : Nat → ByteArray, CRow W a4 len4 (fun i => .string (f i)) := by
    obtain ⟨fuel, hf⟩ := h4
    exact crow_strs Try.underlying32 Try.underlying9 (by kernel_rfl) hf
  clear hA0 hval0
  refine (walk a0 a1 a2 a3 a4 len0 len1 len2 len3 len4 cap0 cap1 cap2 cap3 cap4 f0 f4 z1 z2 z3 W s0 s1 s2 s3 s4 (fun i => word_of_wf (w1 i)) (fun i => word_of_wf (w2 i))).mono fun e W' ⟨he, bel⟩ => ?_
  subst he
  exact ⟨_, rfl, _, _, _, [], _, [], hW', trodAll_mk1 (shut_bool Try.underlying4 _), (trodAll_cons_mk (Below.trod laidOut (by kernel_rfl) (of_decide_eq_true (by kernel_rfl)) k0 bel lt0) (trodAll_cons_mk (Below.trod laidOut (by kernel_rfl) (of_decide_eq_true (by kernel_rfl)) k1 bel lt1) (trodAll_cons_mk (Below.trod laidOut (by kernel_rfl) (of_decide_eq_true (by kernel_rfl)) k2 bel lt2) (trodAll_cons_mk (Below.trod laidOut (by kernel_rfl) (of_decide_eq_true (by kernel_rfl)) k3 bel lt3) (trodAll_cons_mk (Below.trod laidOut (by kernel_rfl) (of_decide_eq_true (by kernel_rfl)) k4 bel lt4) trodAll_mk0))))), rfl, bel.frame _, fun h => by cases h⟩

theorem over : Rows.fnTotalsCountedSplitsByChosenAndRestRow.holds Try.pinned (OpenSpec.ofChange Rows.fnTotalsCountedSplitsByChosenAndRestSpec) :=
  OpenClaim.holds_of_wide 6 Try.f6 rfl rfl rfl rfl rfl rfl rfl ⟨rfl, rfl, rfl, rfl, rfl⟩ rfl rfl rfl rfl rfl (by kernel_rfl) Try.func6 (by kernel_rfl)
    (of_decide_eq_true (by kernel_rfl)) (by unfold Func.isWrapper; first | (rw [if_pos (by decide +kernel)]; kernel_rfl) | (rw [if_neg (by decide +kernel)]; exact ⟨rfl, rfl⟩))
    (fun os started H enc _ => lifted os started H enc)

/-- THE STATEMENT -/
theorem proved : Rows.FnTotalsCountedSplitsByChosenAndRestSaid :=
  over
#print axioms proved
end Go.Proofs.Qxb6612376a.fnTotalsCountedSplitsByChosenAndRest
