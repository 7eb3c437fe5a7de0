/-
  PLAIN LAWS: putting runes one by one up to 'keep'.
-/
import Derived.Test.Qxb6612405aBytes
namespace Go.Proofs.Qxb6612405a
open Go.RowKit

/-- The UTF-8 form of the first k numbers. -/
def fullTo (z : Nat → Int) : Nat → List Int
  | 0 => []
  | k + 1 => fullTo z k ++ enc (z k)

/-- The text behind k puts. -/
def textTo (z : Nat → Int) (keep : Int) : Nat → List Int
  | 0 => []
  | k + 1 => if ((textTo z keep k).length : Int) < keep then textTo z keep k ++ enc (z k) else textTo z keep k

theorem enc_len (c : Int) : 1 ≤ (enc c).length ∧ (enc c).length ≤ 4 := utf_len _
theorem fullTo_len (z : Nat → Int) (k : Nat) : (fullTo z k).length ≤ 4 * k := by
  induction k with
  | zero => simp [fullTo]
  | succ j ih => have := (enc_len (z j)).2; simp only [fullTo, List.length_append]; omega
theorem textTo_len (z : Nat → Int) (keep : Int) (k : Nat) : (textTo z keep k).length ≤ 4 * k := by
  induction k with
  | zero => simp [textTo]
  | succ j ih =>
    have := (enc_len (z j)).2
    simp only [textTo]; split
    · simp only [List.length_append]; omega
    · omega
theorem textTo_adds {z : Nat → Int} {keep : Int} {k : Nat} (h : ((textTo z keep k).length : Int) < keep) : textTo z keep (k + 1) = textTo z keep k ++ enc (z k) := by simp [textTo, h]
theorem textTo_stays {z : Nat → Int} {keep : Int} {k : Nat} (h : keep ≤ ((textTo z keep k).length : Int)) : textTo z keep (k + 1) = textTo z keep k := by
  simp only [textTo]; rw [if_neg (by omega)]

/-- What the first loop knows behind k rounds: m and 'reached'. -/
def CutSt (z : Nat → Int) (keep : Int) (k m : Nat) (r : Bool) : Prop :=
  m = (textTo z keep k).length ∧ textTo z keep k = (fullTo z k).take m ∧ m ≤ (fullTo z k).length ∧
  (r = false → textTo z keep k = fullTo z k ∧ (m : Int) < keep) ∧ (r = true → keep ≤ (m : Int))

theorem CutSt.start (z : Nat → Int) (keep : Int) : CutSt z keep 0 0 (decide (keep ≤ 0)) := by
  refine ⟨rfl, rfl, Nat.le_refl _, fun h => ⟨rfl, ?_⟩, fun h => ?_⟩
  · simp at h; omega
  · simpa using h
theorem CutSt.grow {z : Nat → Int} {keep : Int} {k m : Nat} (h : CutSt z keep k m false) :
    CutSt z keep (k + 1) (fullTo z (k + 1)).length (decide (keep ≤ ((fullTo z (k + 1)).length : Int))) := by
  obtain ⟨h1, h2, h3, h4, _⟩ := h
  obtain ⟨h5, h6⟩ := h4 rfl
  have e : textTo z keep (k + 1) = fullTo z (k + 1) := by rw [textTo_adds (by omega), h5]; rfl
  refine ⟨by rw [e], by rw [e]; simp, Nat.le_refl _, fun h => ⟨e, ?_⟩, fun h => ?_⟩
  · simp at h; omega
  · simpa using h
theorem CutSt.stay {z : Nat → Int} {keep : Int} {k m : Nat} (h : CutSt z keep k m true) : CutSt z keep (k + 1) m true := by
  obtain ⟨h1, h2, h3, _, h5⟩ := h
  have h6 := h5 rfl
  have e : textTo z keep (k + 1) = textTo z keep k := textTo_stays (by omega)
  refine ⟨by rw [e]; exact h1, ?_, ?_, fun h => (by cases h), fun _ => h6⟩
  · rw [e, fullTo, List.take_append_of_le_length h3]; exact h2
  · simp only [fullTo, List.length_append]; omega

theorem CRow.congr {w : World} {a : Option Addr} {n : Nat} {f g : Nat → Value} (h : CRow w a n f) (hfg : ∀ i, i < n → f i = g i) : CRow w a n g := by
  obtain ⟨h0, h⟩ := h
  refine ⟨h0, ?_⟩
  rcases h with h | ⟨b, off, rfl, hlt, hc⟩
  · exact .inl h
  · exact .inr ⟨b, off, rfl, hlt, fun i hi => by rw [← hfg i hi]; exact hc i hi⟩
theorem CRow.cut {w : World} {a : Option Addr} {n m : Nat} {f : Nat → Value} (h : CRow w a n f) (hm : m ≤ n) : CRow w a m f := by
  obtain ⟨h0, h⟩ := h
  refine ⟨by omega, ?_⟩
  rcases h with h | ⟨b, off, rfl, hlt, hc⟩
  · exact .inl (by omega)
  · exact .inr ⟨b, off, rfl, hlt, fun i hi => hc i (by omega)⟩
theorem own_row {w : World} {B n cap : Nat} {a : Option Addr} {bs : List Int} (h : w.ownsRow B 5 1 (.slice a n cap) n (cells bs)) (hn : n ≤ 9223372036854775807) : CRow w a n (fun i => .int .u8 (bs.getD i 0)) := by
  refine ⟨hn, ?_⟩
  by_cases h0 : n = 0
  · exact .inl h0
  rcases h.2 with ⟨hv, hz⟩ | ⟨g, cap', cur, hv, hg, hh, hnc, hcm, hcs, htake⟩
  · omega
  · simp only [Value.slice.injEq] at hv
    obtain ⟨rfl, _, rfl⟩ := hv
    have hl : bs.length = n := by have := h.1; simpa [cells] using this
    refine .inr ⟨g, 0, rfl, lt_of_heap hh, fun i hi => ?_⟩
    rw [Nat.zero_add, h.cellAt i (by omega)]
    simp [cells, hl, hi]
end Go.Proofs.Qxb6612405a
