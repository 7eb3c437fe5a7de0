/-
  zzReachable AS A WHOLE; ZZplaceAt AT A SPELT COLUMN; THE LAW's COLUMNS.
-/
import Derived.Test.Qxb6612722aReachNull
import Derived.Test.Qxb6612722aReachOne
import Derived.Test.Qxb6612722aReachThree
import Derived.Test.Qxb6612722aReachFour
import Derived.Test.Qxb6612722aPlacing
import Derived.Test.Qxb6612722aParser
import Derived.Laws.BitsLemmas
namespace Go.Proofs.Qxb6612722a
open Go.RowKit

/-- zzReachable where the line starts at 0 or later. -/
theorem reach_any (b off n cap j L : Nat) (z : Nat → Int) (bom line : Int) (w : World) (hn : n ≤ 1048576) (hc : ∀ i, i < n → w.cell? ⟨b, off + i, none⟩ = some (.int .u8 (z i))) (hj : j < n) (hm : L ≤ j) :
    Calls Try.prog 5 #[.slice (some ⟨b, off, none⟩) n cap, .int .i64 bom, .int .i64 line, .int .i64 (L : Int), .int .i64 ((j : Int) + 1)] w fun e w' => SomeBool e ∧ w = w' := by
  by_cases h0 : L = 0
  · subst h0
    exact reach_null b off n cap j z bom line w hn hc hj
  by_cases h1 : L < 3
  · obtain ⟨m, rfl⟩ : ∃ m, L = m + 1 := ⟨L - 1, by omega⟩
    rw [show ((m + 1 : Nat) : Int) = (m : Int) + 1 from by omega]
    exact reach_one b off n cap j m z bom line w hn hc hj hm h1
  by_cases h3 : L = 3
  · subst h3
    exact reach_three b off n cap j z bom line w hn hc hj hm
  obtain ⟨m, rfl⟩ : ∃ m, L = m + 4 := ⟨L - 4, by omega⟩
  rw [show ((m + 4 : Nat) : Int) = (m : Int) + 4 from by omega]
  exact reach_four b off n cap j m z bom line w hn hc hj hm

/-- ZZplaceAt, its numbers spelt. -/
theorem zzPlaceAt_at (P g n L pos : Nat) (z : Nat → Int) (bom line tokens p c : Int) (w : World) (hp : p = (pos : Int)) (hcol : c = colOf z L pos (line == bom)) (hn : n ≤ 1048576)
    (hP0 : w.cell? ⟨P, 0, none⟩ = some (.slice (some ⟨g, 0, none⟩) n n)) (hP4 : w.cell? ⟨P, 4, none⟩ = some (.int .i64 bom)) (hlt : g < w.heap.size)
    (hc : ∀ i, i < n → w.cell? ⟨g, i, none⟩ = some (.int .u8 (z i))) (h1 : L ≤ pos) (h2 : pos ≤ n) (hls : L < n) :
    Calls Try.prog 8 #[.pointer (some ⟨P, 0, none⟩), .int .i64 p, .int .i64 line, .int .i64 L, .int .i64 tokens] w fun e w' =>
      e = .returned (.tuple #[.int .i64 line, .int .i64 c, .int .i64 p]) ∧ Below w.heap.size w w' := by
  subst hp hcol
  exact zzPlaceAt_any P g 0 n n L pos z bom line tokens w hn hP0 hP4 hlt (fun i hi => by rw [Nat.zero_add]; exact hc i hi) h1 h2 (Nat.le_refl _) hls

theorem colOf_start (z : Nat → Int) (L : Nat) (e : Bool) : colOf z L L e = 1 + (if e then 1 else 0) := by simp [colOf, cnt]
theorem colOf_next_yes {z : Nat → Int} {L J : Nat} (h : L ≤ J) (e : Bool) (hs : starts (z J) = true) : colOf z L (J + 1) e = colOf z L J e + 1 := by
  have h1 : cnt (from_ z L) (J - L + 1) = cnt (from_ z L) (J - L) + 1 := cnt_yes (by unfold from_; rw [show L + (J - L) = J from by omega]; exact hs)
  unfold colOf
  rw [show J + 1 - L = J - L + 1 from by omega, h1]
  omega
theorem colOf_next_no {z : Nat → Int} {L J : Nat} (h : L ≤ J) (e : Bool) (hs : starts (z J) = false) : colOf z L (J + 1) e = colOf z L J e := by
  have h1 : cnt (from_ z L) (J - L + 1) = cnt (from_ z L) (J - L) := cnt_no (by unfold from_; rw [show L + (J - L) = J from by omega]; exact hs)
  unfold colOf
  rw [show J + 1 - L = J - L + 1 from by omega, h1]

/-- The step's test. -/
theorem top2 : ∀ x : Fin 256, (bits .and .u8 (x.val : Int) 192 == 128) = !(starts (x.val : Int)) := by decide +kernel
theorem top2_any {x : Int} (h0 : 0 ≤ x) (h1 : x ≤ 255) : (bits .and .u8 x 192 == 128) = !(starts x) := by
  have h := top2 ⟨x.toNat, by omega⟩
  simp only [Int.toNat_of_nonneg h0] at h
  exact h
end Go.Proofs.Qxb6612722a
