/-
  FnTotalsCountedSumsChosenBodies where the lengths do not fit: it returns true at once.
-/
import Derived.Test.Qxb6612376aSumsChosen
namespace Go.Proofs.Qxb6612376a
open Go.RowKit

set_option maxHeartbeats 1600000 in
theorem sumsChosen_early (a0 a1 a2 a3 a4 : Option Addr) (n0 n1 n2 n3 n4 c0 c1 c2 c3 c4 : Nat) (f fc : Nat → ByteArray) (w : World)
    (r0 : CRow w a0 n0 (fun i => .string (f i))) (r4 : CRow w a4 n4 (fun i => .string (fc i)))
    (hno : Hid (¬ (n1 = n0 ∧ n2 = n0 ∧ n3 = n0 ∧ n0 ≤ 65536 ∧ n4 ≤ 4096))) :
    Calls Try.prog 5 #[.slice a0 n0 c0, .slice a1 n1 c1, .slice a2 n2 c2, .slice a3 n3 c3, .slice a4 n4 c4] w fun e w' => e = .returned (.bool true) ∧ Below w.heap.size w w' := by
  go_enter Try.func5, Try.ntmps5
  go_wp2_with fail
  refine (zzbytes12_any a0 a1 a2 a3 a4 n0 n1 n2 n3 n4 c0 c1 c2 c3 c4 f fc _ r0 r4).mono ?_
  rintro e w ⟨⟨r, rfl⟩, rfl⟩
  cases r
  · go_wp2
    go_ret
    exact ⟨rfl, Below.refl _ _⟩
  go_wp2_with fail
  refine (sbytes_any a0 n0 c0 f _ r0).mono ?_
  rintro e w ⟨s1, rfl, rfl⟩
  go_wp2_with fail
  refine (sbytes_any a4 n4 c4 fc _ r4).mono ?_
  rintro e w ⟨s2, rfl, rfl⟩
  go_wp2_with fail
  all_goals try (go_ret; exact ⟨rfl, Below.refl _ _⟩)
  have h3 : ((n3 : Int) != (n0 : Int)) = false := by assumption
  have h2 : (n2 : Int) = (n0 : Int) := by assumption
  have h1 : (n1 : Int) = (n0 : Int) := by assumption
  have h0 : (n0 : Int) ≤ 65536 ∧ (n4 : Int) ≤ 4096 := by assumption
  rw [bne_eq_false_iff_eq] at h3
  exact (hno.out ⟨by omega, by omega, by omega, by omega, by omega⟩).elim
end Go.Proofs.Qxb6612376a
