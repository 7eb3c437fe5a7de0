/-
  THE LAW, WHOLE.
-/
import Derived.Test.Qxb6612722aMainOn
import Derived.Test.Qxb6612722aMainOy
import Derived.Test.Qxb6612722aMainSn
import Derived.Test.Qxb6612722aMainSy
namespace Go.Proofs.Qxb6612722a
open Go.RowKit

/-- A slice that is too long. -/
theorem law_long (a : Option Addr) (n cap : Nat) (bom line ls j tokens : Int) (w : World) (hn : 1048576 < n) :
    Calls Try.prog 3 #[.slice a n cap, .int .i64 bom, .int .i64 line, .int .i64 ls, .int .i64 j, .int .i64 tokens] w fun e w' => e = .returned (.bool true) ∧ Below w.heap.size w w' := by
  go_enter Try.func3, Try.ntmps3
  go_wp2_with fail
  refine (zzBytes_no _ n cap _ _ _ _ _ w hn).mono ?_
  rintro e w0 ⟨rfl, rfl⟩
  go_wp2
  go_ret
  exact ⟨rfl, Below.refl _ _⟩

set_option maxRecDepth 100000 in
set_option maxHeartbeats 1000000 in
/-- A place that is no byte of the slice, or lies ahead of the line's start. -/
theorem law_out (a : Option Addr) (n cap : Nat) (bom line ls j tokens : Int) (w : World) (hn : n ≤ 1048576) (h : j < 0 ∨ (n : Int) ≤ j ∨ j < ls) :
    Calls Try.prog 3 #[.slice a n cap, .int .i64 bom, .int .i64 line, .int .i64 ls, .int .i64 j, .int .i64 tokens] w fun e w' => e = .returned (.bool true) ∧ Below w.heap.size w w' := by
  cases c1 : decide (j < 0)
  · cases c2 : decide ((n : Int) ≤ j)
    · have c3 : decide (j < ls) = true := by
        simp only [decide_eq_true_eq, decide_eq_false_iff_not] at *
        omega
      go_enter Try.func3, Try.ntmps3
      go_wp2_with fail
      refine (zzBytes_yes _ n cap _ _ _ _ _ w hn).mono ?_
      rintro e w0 ⟨rfl, rfl⟩
      go_wp2
      go_ret
      exact ⟨rfl, Below.refl _ _⟩
    · go_enter Try.func3, Try.ntmps3
      go_wp2_with fail
      refine (zzBytes_yes _ n cap _ _ _ _ _ w hn).mono ?_
      rintro e w0 ⟨rfl, rfl⟩
      go_wp2
      go_ret
      exact ⟨rfl, Below.refl _ _⟩
  · go_enter Try.func3, Try.ntmps3
    go_wp2_with fail
    refine (zzBytes_yes _ n cap _ _ _ _ _ w hn).mono ?_
    rintro e w0 ⟨rfl, rfl⟩
    go_wp2
    go_ret
    exact ⟨rfl, Below.refl _ _⟩

set_option maxRecDepth 100000 in
set_option maxHeartbeats 1000000 in
/-- A line that starts below 0. -/
theorem law_neg (a : Option Addr) (n cap J : Nat) (bom line ls tokens : Int) (w : World) (hn : n ≤ 1048576) (hJ : J < n) (hls : ls < 0) :
    Calls Try.prog 3 #[.slice a n cap, .int .i64 bom, .int .i64 line, .int .i64 ls, .int .i64 (J : Int), .int .i64 tokens] w fun e w' => e = .returned (.bool true) ∧ Below w.heap.size w w' := by
  have b1 : decide ((J : Int) < 0) = false := by simp
  have b2 : decide ((n : Int) ≤ (J : Int)) = false := by simp; omega
  have b3 : decide ((J : Int) < ls) = false := by simp; omega
  go_enter Try.func3, Try.ntmps3
  go_wp2_with fail
  refine (zzBytes_yes _ n cap _ _ _ _ _ w hn).mono ?_
  rintro e w0 ⟨rfl, rfl⟩
  go_wp2_with fail
  refine (reach_neg _ n cap bom line ls _ w hls).mono ?_
  rintro e w0 ⟨rfl, rfl⟩
  go_wp2
  go_ret
  exact ⟨rfl, Below.refl _ _⟩

/-- The law at every argument. -/
theorem law_any (a : Option Addr) (n cap : Nat) (z : Nat → Int) (bom line ls j tokens : Int) (w : World) (hz : ∀ i, i < n → 0 ≤ z i ∧ z i ≤ 255) (hr : CRow w a n (fun i => .int .u8 (z i))) :
    Calls Try.prog 3 #[.slice a n cap, .int .i64 bom, .int .i64 line, .int .i64 ls, .int .i64 j, .int .i64 tokens] w fun e w' => e = .returned (.bool true) ∧ Below w.heap.size w w' := by
  by_cases hn : 1048576 < n
  · exact law_long a n cap bom line ls j tokens w hn
  have hn' : n ≤ 1048576 := by omega
  by_cases ho : j < 0 ∨ (n : Int) ≤ j ∨ j < ls
  · exact law_out a n cap bom line ls j tokens w hn' ho
  obtain ⟨J, rfl⟩ : ∃ J : Nat, j = (J : Int) := ⟨j.toNat, by omega⟩
  have hJ : J < n := by omega
  by_cases hls : ls < 0
  · exact law_neg a n cap J bom line ls tokens w hn' hJ hls
  obtain ⟨L, rfl⟩ : ∃ L : Nat, ls = (L : Int) := ⟨ls.toNat, by omega⟩
  have hL : L ≤ J := by omega
  obtain ⟨_, h0 | ⟨b, off, rfl, hb, hc⟩⟩ := hr
  · omega
  have hst := top2_any (hz J hJ).1 (hz J hJ).2
  have hC : cnt (from_ z L) (J - L) ≤ J - L := cnt_le _ _
  cases he : (line == bom)
  · have k0 : (1 : Int) = colOf z L L (line == bom) := by rw [colOf_start, he]; rfl
    have k1 : ((cnt (from_ z L) (J - L) : Nat) : Int) + 1 = colOf z L J (line == bom) := by rw [he]; simp [colOf]
    cases hs : starts (z J)
    · rw [hs] at hst
      exact main_on b off n cap L J _ z bom line tokens w hn' hb hc hJ hL he hst hC k0 k1 (by rw [colOf_next_no hL _ hs]; exact k1)
    · rw [hs] at hst
      exact main_oy b off n cap L J _ z bom line tokens w hn' hb hc hJ hL he hst hC k0 k1 (by rw [colOf_next_yes hL _ hs, ← k1])
  · have k0 : (2 : Int) = colOf z L L (line == bom) := by rw [colOf_start, he]; rfl
    have k1 : ((cnt (from_ z L) (J - L) : Nat) : Int) + 2 = colOf z L J (line == bom) := by rw [he]; simp only [colOf, if_true]; omega
    cases hs : starts (z J)
    · rw [hs] at hst
      exact main_sn b off n cap L J _ z bom line tokens w hn' hb hc hJ hL he hst hC k0 k1 (by rw [colOf_next_no hL _ hs]; exact k1)
    · rw [hs] at hst
      exact main_sy b off n cap L J _ z bom line tokens w hn' hb hc hJ hL he hst hC k0 k1 (by rw [colOf_next_yes hL _ hs, ← k1])
end Go.Proofs.Qxb6612722a
