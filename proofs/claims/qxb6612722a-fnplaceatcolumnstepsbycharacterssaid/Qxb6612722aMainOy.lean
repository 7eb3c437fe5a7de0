/-
  THE LAW's MAIN ROAD, FOUR WAYS. (Typed by program.)
-/
import Derived.Test.Qxb6612722aCols
namespace Go.Proofs.Qxb6612722a
open Go.RowKit

set_option maxRecDepth 100000 in
set_option maxHeartbeats 8000000 in
theorem main_oy (b off n cap L J C : Nat) (z : Nat → Int) (bom line tokens : Int) (w : World) (hn : n ≤ 1048576) (hb : b < w.heap.size) (hc : ∀ i, i < n → w.cell? ⟨b, off + i, none⟩ = some (.int .u8 (z i)))
    (hJ : J < n) (hL : L ≤ J) (he : (line == bom) = false) (hst : (bits .and .u8 (z J) 192 == 128) = !true) (hC : C ≤ J - L)
    (k0 : (1 : Int) = colOf z L L (line == bom)) (k1 : ((C : Int) + 1) = colOf z L J (line == bom)) (k2 : ((C : Int) + 1 + 1) = colOf z L (J + 1) (line == bom)) :
    Calls Try.prog 3 #[.slice (some ⟨b, off, none⟩) n cap, .int .i64 bom, .int .i64 line, .int .i64 (L : Int), .int .i64 (J : Int), .int .i64 tokens] w fun e w' => e = .returned (.bool true) ∧ Below w.heap.size w w' := by
  have HC : Hid _ := hc
  have K0 : Hid _ := k0
  have K1 : Hid _ := k1
  have K2 : Hid _ := k2
  clear hc k0 k1 k2
  have b1 : decide ((J : Int) < 0) = false := by simp
  have b2 : decide ((n : Int) ≤ (J : Int)) = false := by simp; omega
  have b3 : decide ((J : Int) < (L : Int)) = false := by simp; omega
  go_enter Try.func3, Try.ntmps3
  go_wp2_with fail
  refine (zzBytes_yes _ n cap _ _ _ _ _ w hn).mono ?_
  rintro e w0 ⟨rfl, rfl⟩
  go_wp2_with fail
  refine (reach_any b off n cap J L z bom line w hn HC.out hJ hL).mono ?_
  rintro e w0 ⟨⟨r, rfl⟩, rfl⟩
  cases r
  · go_wp2
    go_ret
    exact ⟨rfl, Below.refl _ _⟩
  · go_wp2_with fail
    refine (clone_some ⟨b, off, none⟩ n cap z w hn ⟨by omega, .inr ⟨b, off, rfl, hb, HC.out⟩⟩).mono ?_
    rintro e w1 ⟨g, rfl, hg1, hc1, hB1⟩
    have HB1 : Hid _ := hB1
    have HC1 : Hid _ := hc1
    clear hB1 hc1 HC
    go_wp2_with fail
    refine (newParserAt_any (some ⟨g, 0, none⟩) n n bom ((J : Int) + 1) line L w1).mono ?_
    rintro e w2 ⟨P, rfl, p0, p4, hP, hB2⟩
    have HB2 : Hid _ := hB2
    have HC2 : Hid (∀ i, i < n → w2.cell? ⟨g, i, none⟩ = some (.int .u8 (z i))) := fun i hi => cell_later hB2 (HC1.out i hi)
    have hg2 : g < w2.heap.size := Nat.lt_of_lt_of_le hg1 hB2.size
    have P02 : Hid _ := p0
    have P42 : Hid _ := p4
    clear hB2 p0 p4 HC1
    go_wp2_with fail
    refine (zzPlaceAt_at P g n L L z bom line tokens L 1 w2 rfl K0.out hn P02.out P42.out hg2 HC2.out (Nat.le_refl _) (by omega) (by omega)).mono ?_
    rintro e w3 ⟨rfl, hB3⟩
    have HB3 : Hid _ := hB3
    have HC3 : Hid (∀ i, i < n → w3.cell? ⟨g, i, none⟩ = some (.int .u8 (z i))) := fun i hi => cell_later hB3 (HC2.out i hi)
    have hg3 : g < w3.heap.size := Nat.lt_of_lt_of_le hg2 hB3.size
    have P03 : Hid _ := cell_later hB3 P02.out
    have P43 : Hid _ := cell_later hB3 P42.out
    clear hB3 HC2 P02 P42
    go_wp2_with fail
    refine (zzPlaceAt_at P g n L J z bom line tokens J ((C : Int) + 1) w3 rfl K1.out hn P03.out P43.out hg3 HC3.out hL (by omega) (by omega)).mono ?_
    rintro e w4 ⟨rfl, hB4⟩
    have HB4 : Hid _ := hB4
    have HC4 : Hid (∀ i, i < n → w4.cell? ⟨g, i, none⟩ = some (.int .u8 (z i))) := fun i hi => cell_later hB4 (HC3.out i hi)
    have hg4 : g < w4.heap.size := Nat.lt_of_lt_of_le hg3 hB4.size
    have P04 : Hid _ := cell_later hB4 P03.out
    have P44 : Hid _ := cell_later hB4 P43.out
    clear hB4 HC3 P03 P43
    go_wp2_with fail
    refine (zzPlaceAt_at P g n L (J + 1) z bom line tokens ((J : Int) + 1) ((C : Int) + 1 + 1) w4 (by omega) K2.out hn P04.out P44.out hg4 HC4.out (by omega) (by omega) (by omega)).mono ?_
    rintro e w5 ⟨rfl, hB5⟩
    have q := cell_later hB5 (HC4.out J hJ)
    have HB5 : Hid _ := hB5
    clear hB5 HC4 P04 P44
    have m1 : wrap64 ((J : Int) - (L : Int)) = (J : Int) - (L : Int) := by unfold wrap64; omega
    have m2 : decide (((C : Int) + 1) ≤ 1 + ((J : Int) - (L : Int))) = true := by simp; omega
    have m3 : decide (1 ≤ ((C : Int) + 1)) = true := by simp <;> omega
    go_wp2
    go_ret
    exact ⟨rfl, below_call (below_call (below_call (below_call HB1.out HB2.out) HB3.out) HB4.out) HB5.out⟩
end Go.Proofs.Qxb6612722a
