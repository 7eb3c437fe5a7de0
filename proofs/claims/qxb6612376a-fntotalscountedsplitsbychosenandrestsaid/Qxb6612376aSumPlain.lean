/-
  PLAIN LAWS: sums over the chosen rows; four limbs and one carry at the end; two words with a carry a row.
-/
import Derived.Test.Qxb6612376aPlain
namespace Go.Proofs.Qxb6612376a
open Go.RowKit

/-- The sum of z i over the i below k that p picks. -/
def limb (p : Nat → Bool) (z : Nat → Int) : Nat → Int
  | 0 => 0
  | k + 1 => limb p z k + if p k then z k else 0

/-- The 128-bit total of the picked rows (not yet cut to 128 bits). -/
def tot (p : Nat → Bool) (hi lo : Nat → Int) (k : Nat) : Int := limb p (fun i => hi i * 18446744073709551616 + lo i) k

theorem tot_yes {p : Nat → Bool} {hi lo : Nat → Int} {k : Nat} (h : p k = true) : tot p hi lo (k + 1) = tot p hi lo k + (hi k * 18446744073709551616 + lo k) := by
  simp [tot, limb, h]
theorem tot_no {p : Nat → Bool} {hi lo : Nat → Int} {k : Nat} (h : p k = false) : tot p hi lo (k + 1) = tot p hi lo k := by
  simp [tot, limb, h]
theorem limb_yes {p : Nat → Bool} {z : Nat → Int} {k : Nat} (h : p k = true) : limb p z (k + 1) = limb p z k + z k := by simp [limb, h]
theorem limb_no {p : Nat → Bool} {z : Nat → Int} {k : Nat} (h : p k = false) : limb p z (k + 1) = limb p z k := by simp [limb, h]

theorem limb_congr {p q : Nat → Bool} {z : Nat → Int} {n : Nat} (h : ∀ i, i < n → p i = q i) : limb p z n = limb q z n := by
  induction n with
  | zero => rfl
  | succ m ih => simp only [limb]; rw [ih (fun i hi => h i (by omega)), h m (by omega)]
theorem limb_split {p q r : Nat → Bool} {z : Nat → Int} {n : Nat} (h : ∀ i, i < n → (p i = true ∧ q i = true ∧ r i = false) ∨ (p i = true ∧ q i = false ∧ r i = true)) :
    limb p z n = limb q z n + limb r z n := by
  induction n with
  | zero => rfl
  | succ m ih =>
    simp only [limb]
    rw [ih (fun i hi => h i (by omega))]
    rcases h m (by omega) with ⟨h1, h2, h3⟩ | ⟨h1, h2, h3⟩ <;> simp [h1, h2, h3] <;> omega

/-- What the four limbs and the count hold behind k rows. -/
def LimbSt (p : Nat → Bool) (hi lo ns : Nat → Int) (k : Nat) (x0 x1 x2 x3 x4 : Int) : Prop :=
  x0 + x1 * 4294967296 + x2 * 18446744073709551616 + x3 * 79228162514264337593543950336 = tot p hi lo k ∧ x4 = wrap64 (limb p ns k)

theorem LimbSt.start (p : Nat → Bool) (hi lo ns : Nat → Int) : LimbSt p hi lo ns 0 0 0 0 0 0 := by
  refine ⟨by simp [tot, limb], ?_⟩
  simp [limb, wrap64]
theorem LimbSt.no {p : Nat → Bool} {hi lo ns : Nat → Int} {k : Nat} {x0 x1 x2 x3 x4 : Int} (h : LimbSt p hi lo ns k x0 x1 x2 x3 x4) (hp : p k = false) : LimbSt p hi lo ns (k + 1) x0 x1 x2 x3 x4 := by
  obtain ⟨h1, h2⟩ := h
  exact ⟨by rw [tot_no hp]; exact h1, by rw [limb_no hp]; exact h2⟩
theorem wrap_wrap_add (a b : Int) : wrap64 (wrap64 a + b) = wrap64 (a + b) := by unfold wrap64; omega
theorem LimbSt.yes {p : Nat → Bool} {hi lo ns : Nat → Int} {k : Nat} {x0 x1 x2 x3 x4 : Int} (h : LimbSt p hi lo ns k x0 x1 x2 x3 x4) (hp : p k = true) :
    LimbSt p hi lo ns (k + 1) (x0 + lo k % 4294967296) (x1 + lo k / 4294967296) (x2 + hi k % 4294967296) (x3 + hi k / 4294967296) (wrap64 (x4 + ns k)) := by
  obtain ⟨h1, h2⟩ := h
  refine ⟨by rw [tot_yes hp, ← h1]; omega, by rw [limb_yes hp, h2, wrap_wrap_add]⟩

theorem limb_end_lo {x0 x1 x2 x3 T : Int} (hT : x0 + x1 * 4294967296 + x2 * 18446744073709551616 + x3 * 79228162514264337593543950336 = T) :
    (x1 + x0 / 4294967296) % 4294967296 * 4294967296 + x0 % 4294967296 = T % 18446744073709551616 := by omega
theorem limb_end_hi {x0 x1 x2 x3 T : Int} (hT : x0 + x1 * 4294967296 + x2 * 18446744073709551616 + x3 * 79228162514264337593543950336 = T) :
    (x3 + (x2 + (x1 + x0 / 4294967296) / 4294967296) / 4294967296) % 4294967296 * 4294967296 + (x2 + (x1 + x0 / 4294967296) / 4294967296) % 4294967296 = T / 18446744073709551616 % 18446744073709551616 := by omega

/-- One row more, by two words and a carry. -/
theorem plus_lo (T l h : Int) : (T % 18446744073709551616 + l) % 18446744073709551616 = (T + (h * 18446744073709551616 + l)) % 18446744073709551616 := by omega
theorem plus_hi (T l h : Int) : (T / 18446744073709551616 % 18446744073709551616 + h + (T % 18446744073709551616 + l) / 18446744073709551616) % 18446744073709551616 = (T + (h * 18446744073709551616 + l)) / 18446744073709551616 % 18446744073709551616 := by omega
/-- Two totals put together, and one taken from the other. -/
theorem join_lo (A B : Int) : (A % 18446744073709551616 + B % 18446744073709551616) % 18446744073709551616 = (A + B) % 18446744073709551616 := by omega
theorem join_hi (A B : Int) : (A / 18446744073709551616 % 18446744073709551616 + B / 18446744073709551616 % 18446744073709551616 + (A % 18446744073709551616 + B % 18446744073709551616) / 18446744073709551616) % 18446744073709551616 = (A + B) / 18446744073709551616 % 18446744073709551616 := by omega
theorem less_lo (A B : Int) : ((A + B) % 18446744073709551616 - A % 18446744073709551616) % 18446744073709551616 = B % 18446744073709551616 := by omega
theorem less_hi (A B : Int) : ((A + B) / 18446744073709551616 % 18446744073709551616 - A / 18446744073709551616 % 18446744073709551616 - bor ((A + B) % 18446744073709551616) (A % 18446744073709551616)) % 18446744073709551616 = B / 18446744073709551616 % 18446744073709551616 := by
  unfold bor
  split <;> omega
theorem wrap_join (a b : Int) : wrap64 (wrap64 a + wrap64 b) = wrap64 (a + b) := by unfold wrap64; omega
theorem wrap_less (a b : Int) : wrap64 (wrap64 (a + b) - wrap64 a) = wrap64 b := by unfold wrap64; omega
theorem wrap_id64 (a : Int) (h0 : -9223372036854775808 ≤ a) (h1 : a ≤ 9223372036854775807) : wrap64 a = a := by unfold wrap64; omega
end Go.Proofs.Qxb6612376a
