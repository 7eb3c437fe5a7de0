/-
  PLAIN LAWS OF THIS SEAT: the UTF-8 form of a number of int32; the bit operations as the walks spell them.
-/
import Derived.WalkKit
import Derived.Laws.BitsLemmas
namespace Go.Proofs.Qxb6612405a
open Go.RowKit

/-- A number that is no Unicode scalar value stands for U+FFFD. -/
def fixed (c : Int) : Int := if c < 0 ∨ 1114111 < c ∨ (55296 ≤ c ∧ c ≤ 57343) then 65533 else c

/-- The UTF-8 form of a scalar value. -/
def utf (r : Int) : List Int :=
  if r < 128 then [r]
  else if r < 2048 then [192 + r / 64, 128 + r % 64]
  else if r < 65536 then [224 + r / 4096, 128 + r / 64 % 64, 128 + r % 64]
  else [240 + r / 262144, 128 + r / 4096 % 64, 128 + r / 64 % 64, 128 + r % 64]

def enc (c : Int) : List Int := utf (fixed c)

/-- Bytes as cells. -/
def cells (bs : List Int) : List Value := bs.map (Value.int .u8)

theorem fixed_bad {c : Int} (h : c < 0 ∨ 1114111 < c ∨ (55296 ≤ c ∧ c ≤ 57343)) : fixed c = 65533 := if_pos h
theorem fixed_good {c : Int} (h : ¬ (c < 0 ∨ 1114111 < c ∨ (55296 ≤ c ∧ c ≤ 57343))) : fixed c = c := if_neg h
theorem fixed_ok (c : Int) : 0 ≤ fixed c ∧ fixed c ≤ 1114111 ∧ ¬ (55296 ≤ fixed c ∧ fixed c ≤ 57343) := by
  unfold fixed; split <;> omega
theorem utf_one {r : Int} (h : r < 128) : utf r = [r] := if_pos h
theorem utf_two {r : Int} (h : 128 ≤ r) (h' : r < 2048) : utf r = [192 + r / 64, 128 + r % 64] := by
  unfold utf; rw [if_neg (by omega), if_pos h']
theorem utf_three {r : Int} (h : 2048 ≤ r) (h' : r < 65536) : utf r = [224 + r / 4096, 128 + r / 64 % 64, 128 + r % 64] := by
  unfold utf; rw [if_neg (by omega), if_neg (by omega), if_pos h']
theorem utf_four {r : Int} (h : 65536 ≤ r) : utf r = [240 + r / 262144, 128 + r / 4096 % 64, 128 + r / 64 % 64, 128 + r % 64] := by
  unfold utf; rw [if_neg (by omega), if_neg (by omega), if_neg (by omega)]
theorem utf_len (r : Int) : 1 ≤ (utf r).length ∧ (utf r).length ≤ 4 := by
  unfold utf; split
  · simp
  split
  · simp
  split <;> simp

/-! ### bit operations on int32 -/
theorem or_192 (y : Int) (h0 : 0 ≤ y) (h1 : y < 32) : bits .or .i32 192 y = 192 + y := bits_join .i32 31 (by decide) wraps_i32 5 192 y (by decide) (by decide) (by decide) h0 h1 (by omega)
theorem or_224 (y : Int) (h0 : 0 ≤ y) (h1 : y < 16) : bits .or .i32 224 y = 224 + y := bits_join .i32 31 (by decide) wraps_i32 4 224 y (by decide) (by decide) (by decide) h0 h1 (by omega)
theorem or_240 (y : Int) (h0 : 0 ≤ y) (h1 : y < 8) : bits .or .i32 240 y = 240 + y := bits_join .i32 31 (by decide) wraps_i32 3 240 y (by decide) (by decide) (by decide) h0 h1 (by omega)
theorem or_128 (y : Int) (h0 : 0 ≤ y) (h1 : y < 64) : bits .or .i32 128 y = 128 + y := bits_join .i32 31 (by decide) wraps_i32 6 128 y (by decide) (by decide) (by decide) h0 h1 (by omega)
theorem and_63 (x : Int) (h0 : 0 ≤ x) (h1 : x < 2147483648) : bits .and .i32 x 63 = x % 64 := bits_mask .i32 31 (by decide) wraps_i32 6 (by decide) x h0 h1
theorem and_31 (x : Int) (h0 : 0 ≤ x) (h1 : x < 2147483648) : bits .and .i32 x 31 = x % 32 := bits_mask .i32 31 (by decide) wraps_i32 5 (by decide) x h0 h1
theorem and_15 (x : Int) (h0 : 0 ≤ x) (h1 : x < 2147483648) : bits .and .i32 x 15 = x % 16 := bits_mask .i32 31 (by decide) wraps_i32 4 (by decide) x h0 h1
theorem and_7 (x : Int) (h0 : 0 ≤ x) (h1 : x < 2147483648) : bits .and .i32 x 7 = x % 8 := bits_mask .i32 31 (by decide) wraps_i32 3 (by decide) x h0 h1
theorem lead_63 (x : Int) (h0 : 0 ≤ x) (h1 : x < 2147483648) : bits .or .i32 128 (bits .and .i32 x 63) = 128 + x % 64 := by
  rw [and_63 x h0 h1, or_128 _ (by omega) (by omega)]
end Go.Proofs.Qxb6612405a
