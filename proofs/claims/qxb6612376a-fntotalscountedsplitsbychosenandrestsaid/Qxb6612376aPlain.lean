/-
  PLAIN LAWS OF THIS SEAT: numbers of one and of two words. No Go function in sight (only the model's word for the bit operations).
-/
import Derived.WalkKit
import Derived.Laws.BitsAllLaws
namespace Go.Proofs.Qxb6612376a
open Go.RowKit

/-- A word of 64 bits. -/
def Word (x : Int) : Prop := 0 ≤ x ∧ x < 18446744073709551616

theorem word_mod (x : Int) : Word (x % 18446744073709551616) := ⟨by omega, by omega⟩

/-- The borrow, under a name (an open 'if' parts every walk behind it). -/
def bor (x y : Int) : Int := if x < y then 1 else 0

theorem bor_01 (x y : Int) : 0 ≤ bor x y ∧ bor x y ≤ 1 := by
  unfold bor; split <;> omega

theorem nat_mask32 (x : Nat) : x &&& 4294967295 = x % 4294967296 := Nat.and_two_pow_sub_one_eq_mod x 32

theorem and_mask (x : Int) (h0 : 0 ≤ x) (h1 : x < 18446744073709551616) : bits .and .u64 x 4294967295 = x % 4294967296 := by
  rw [u64_and x 4294967295 h0 h1 (by decide) (by decide)]
  rw [show (4294967295 : Int).toNat = 4294967295 from rfl, nat_mask32]
  omega

theorem not_u64 (x : Int) (h0 : 0 ≤ x) (h1 : x < 18446744073709551616) : bits .xor .u64 18446744073709551615 x = 18446744073709551615 - x := by
  obtain ⟨n, rfl⟩ := Int.eq_ofNat_of_zero_le h0
  show IntKind.u64.wrap ((BitVec.ofInt 64 18446744073709551615 ^^^ BitVec.ofInt 64 (n : Int)).toNat : Int) = _
  have e1 : BitVec.ofInt 64 18446744073709551615 = BitVec.allOnes 64 := by decide
  rw [e1, BitVec.allOnes_xor, BitVec.toNat_not, ofInt_u64 n (by omega), IntKind.wrap_u64]
  omega

theorem not_and_mask (x : Int) (h0 : 0 ≤ x) (h1 : x < 4294967296) :
    bits .and .u64 (bits .xor .u64 18446744073709551615 x) 4294967295 = 4294967295 - x := by
  rw [not_u64 x h0 (by omega), and_mask _ (by omega) (by omega)]
  omega

theorem not_and_mask' (x : Int) (h0 : 0 ≤ x) (h1 : x < 4294967296) :
    bits .and .u64 (bits .xor .u64 IntKind.u64.max x) 4294967295 = 4294967295 - x := not_and_mask x h0 h1

theorem or_join (x y : Int) (h0 : 0 ≤ x) (h1 : x < 4294967296) (h2 : 0 ≤ y) (h3 : y < 4294967296) :
    bits .or .u64 (x * 4294967296) y = x * 4294967296 + y := by
  obtain ⟨a, rfl⟩ := Int.eq_ofNat_of_zero_le h0
  obtain ⟨b, rfl⟩ := Int.eq_ofNat_of_zero_le h2
  have e : ((a : Int) * 4294967296) = ((a * 4294967296 : Nat) : Int) := by omega
  rw [e, u64_or_nat _ _ (by omega) (by omega), nat_join 32 _ _ (by show a * 4294967296 % 4294967296 = 0; omega) (by show b < 4294967296; omega)]
  omega

theorem join_words (x y : Int) (h0 : 0 ≤ x) (h1 : x < 18446744073709551616) (h2 : 0 ≤ y) (h3 : y < 18446744073709551616) :
    bits .or .u64 (IntKind.u64.wrap (bits .and .u64 x 4294967295 * 4294967296)) (bits .and .u64 y 4294967295) = x % 4294967296 * 4294967296 + y % 4294967296 := by
  rw [and_mask x h0 h1, and_mask y h2 h3, IntKind.wrap_u64, show x % 4294967296 * 4294967296 % 18446744073709551616 = x % 4294967296 * 4294967296 from by omega]
  exact or_join _ _ (by omega) (by omega) (by omega) (by omega)

theorem i64_not_all (x : Int) (h0 : -9223372036854775808 ≤ x) (h1 : x ≤ 9223372036854775807) : bits .xor .i64 (-1) x = -1 - x := by
  show IntKind.i64.wrap ((BitVec.ofInt 64 (-1) ^^^ BitVec.ofInt 64 x).toNat : Int) = _
  have e1 : BitVec.ofInt 64 (-1) = BitVec.allOnes 64 := by decide
  rw [e1, BitVec.allOnes_xor, BitVec.toNat_not, BitVec.toNat_ofInt]
  simp [IntKind.wrap, IntKind.bits, IntKind.signed]
  omega

/-- Subtraction of two words by the complement, limb by limb: the low word. -/
theorem sub_lo (al bl v0 v1 : Int) (_h2 : Word al) (_h4 : Word bl)
    (e0 : v0 = al % 4294967296 + (4294967295 - bl % 4294967296) + 1)
    (e1 : v1 = al / 4294967296 + (4294967295 - bl / 4294967296) + v0 / 4294967296) :
    v1 % 4294967296 * 4294967296 + v0 % 4294967296 = (al - bl) % 18446744073709551616 := by
  obtain ⟨_, _⟩ := _h2; obtain ⟨_, _⟩ := _h4; omega

/-- The carry out of the low word is 'no borrow'. -/
theorem sub_carry (al bl v0 v1 : Int) (_h2 : Word al) (_h4 : Word bl)
    (e0 : v0 = al % 4294967296 + (4294967295 - bl % 4294967296) + 1)
    (e1 : v1 = al / 4294967296 + (4294967295 - bl / 4294967296) + v0 / 4294967296) :
    v1 / 4294967296 = 1 - bor al bl := by
  obtain ⟨_, _⟩ := _h2; obtain ⟨_, _⟩ := _h4
  unfold bor
  split <;> omega

/-- The high word. -/
theorem sub_hi (ah bh c v2 v3 b : Int) (_h2 : Word ah) (_h4 : Word bh) (hc : c = 1 - b)
    (e0 : v2 = ah % 4294967296 + (4294967295 - bh % 4294967296) + c)
    (e1 : v3 = ah / 4294967296 + (4294967295 - bh / 4294967296) + v2 / 4294967296) :
    v3 % 4294967296 * 4294967296 + v2 % 4294967296 = (ah - bh - b) % 18446744073709551616 := by
  obtain ⟨_, _⟩ := _h2; obtain ⟨_, _⟩ := _h4; omega

theorem sub_lo_bits (al bl : Int) (h2 : Word al) (h4 : Word bl) :
    bits .or .u64 (IntKind.u64.wrap (bits .and .u64 (al / 4294967296 + (4294967295 - bl / 4294967296) + (al % 4294967296 + (4294967295 - bl % 4294967296) + 1) / 4294967296) 4294967295 * 4294967296))
      (bits .and .u64 (al % 4294967296 + (4294967295 - bl % 4294967296) + 1) 4294967295) = (al - bl) % 18446744073709551616 := by
  have h2' := h2; have h4' := h4
  obtain ⟨_, _⟩ := h2'; obtain ⟨_, _⟩ := h4'
  rw [join_words _ _ (by omega) (by omega) (by omega) (by omega)]
  exact sub_lo al bl _ _ h2 h4 rfl rfl
theorem sub_hi_bits (ah al bh bl : Int) (h1 : Word ah) (h2 : Word al) (h3 : Word bh) (h4 : Word bl) :
    bits .or .u64 (IntKind.u64.wrap (bits .and .u64 (ah / 4294967296 + (4294967295 - bh / 4294967296) + (ah % 4294967296 + (4294967295 - bh % 4294967296) + (al / 4294967296 + (4294967295 - bl / 4294967296) + (al % 4294967296 + (4294967295 - bl % 4294967296) + 1) / 4294967296) / 4294967296) / 4294967296) 4294967295 * 4294967296))
      (bits .and .u64 (ah % 4294967296 + (4294967295 - bh % 4294967296) + (al / 4294967296 + (4294967295 - bl / 4294967296) + (al % 4294967296 + (4294967295 - bl % 4294967296) + 1) / 4294967296) / 4294967296) 4294967295) = (ah - bh - bor al bl) % 18446744073709551616 := by
  have hc := sub_carry al bl _ _ h2 h4 rfl rfl
  have hb := bor_01 al bl
  rw [hc]
  have h1' := h1; have h3' := h3
  obtain ⟨_, _⟩ := h1'; obtain ⟨_, _⟩ := h3'
  rw [join_words _ _ (by omega) (by omega) (by omega) (by omega)]
  exact sub_hi ah bh _ _ _ _ h1 h3 rfl rfl rfl

theorem wrap_sub2 (x y b : Int) : IntKind.u64.wrap (IntKind.u64.wrap (x - y) - b) = (x - y - b) % 18446744073709551616 := by
  simp only [IntKind.wrap_u64]; omega
theorem wrap_add2 (x y b : Int) : IntKind.u64.wrap (IntKind.u64.wrap (x + y) + b) = (x + y + b) % 18446744073709551616 := by
  simp only [IntKind.wrap_u64]; omega

/-! ### minus undoes plus, plus undoes minus -/
theorem back_lo (al bl : Int) (h2 : Word al) (_h4 : Word bl) : ((al + bl) % 18446744073709551616 - bl) % 18446744073709551616 = al := by
  obtain ⟨_, _⟩ := h2; omega
theorem back_hi (ah al bh bl : Int) (h1 : Word ah) (h2 : Word al) (_h3 : Word bh) (h4 : Word bl) :
    ((ah + bh + (al + bl) / 18446744073709551616) % 18446744073709551616 - bh - bor ((al + bl) % 18446744073709551616) bl) % 18446744073709551616 = ah := by
  unfold bor
  obtain ⟨_, _⟩ := h1; obtain ⟨_, _⟩ := h2; obtain ⟨_, _⟩ := h4
  split <;> omega
theorem fwd_lo (al bl : Int) (h2 : Word al) (_h4 : Word bl) : ((al - bl) % 18446744073709551616 + bl) % 18446744073709551616 = al := by
  obtain ⟨_, _⟩ := h2; omega
theorem fwd_hi (ah al bh bl : Int) (h1 : Word ah) (h2 : Word al) (_h3 : Word bh) (h4 : Word bl) :
    ((ah - bh - bor al bl) % 18446744073709551616 + bh + ((al - bl) % 18446744073709551616 + bl) / 18446744073709551616) % 18446744073709551616 = ah := by
  unfold bor
  obtain ⟨_, _⟩ := h1; obtain ⟨_, _⟩ := h2; obtain ⟨_, _⟩ := h4
  split <;> omega
/-! ### The counts: ints that wrap -/
theorem wrap_not (a b : Int) (h0 : -9223372036854775808 ≤ b) (h1 : b ≤ 9223372036854775807) :
    wrap64 (wrap64 (a + bits .xor .i64 (-1) b) + 1) = wrap64 (a - b) := by
  rw [i64_not_all b h0 h1]
  unfold wrap64
  omega
theorem wrap_back (a b : Int) (h0 : -9223372036854775808 ≤ a) (h1 : a ≤ 9223372036854775807) : wrap64 (wrap64 (a + b) - b) = a := by
  unfold wrap64; omega
theorem wrap_fwd (a b : Int) (h0 : -9223372036854775808 ≤ a) (h1 : a ≤ 9223372036854775807) : wrap64 (wrap64 (a - b) + b) = a := by
  unfold wrap64; omega
theorem word_of_wf {x : Int} (h : (Lit.int .u64 x).wf = true) : Word x := by
  simp [Lit.wf, IntKind.min, IntKind.max, IntKind.signed, IntKind.bits] at h
  exact ⟨by omega, by omega⟩
theorem int_of_wf {x : Int} (h : (Lit.int .i64 x).wf = true) : -9223372036854775808 ≤ x ∧ x ≤ 9223372036854775807 := by
  simp [Lit.wf, IntKind.min, IntKind.max, IntKind.signed, IntKind.bits] at h
  exact ⟨by omega, by omega⟩
end Go.Proofs.Qxb6612376a
