/-
  THE REST: the bodies that are not among the chosen ones: plain facts.
-/
import Derived.Test.Qxb6612376aCounted
namespace Go.Proofs.Qxb6612376a
open Go.RowKit

theorem memb_congr {f : Nat → ByteArray} {s t : ByteArray} (h : s.toList = t.toList) (n : Nat) : memb f s n = memb f t n := by
  induction n with
  | zero => rfl
  | succ m ih => simp only [memb, ih, h]

theorem memb_iff {f : Nat → ByteArray} {s : ByteArray} {n : Nat} : memb f s n = true ↔ ∃ i, i < n ∧ (f i).toList = s.toList := by
  induction n with
  | zero => simp [memb]
  | succ m ih =>
    simp only [memb, Bool.or_eq_true, ih, beq_iff_eq]
    constructor
    · rintro (⟨i, hi, h⟩ | h)
      · exact ⟨i, by omega, h⟩
      · exact ⟨m, by omega, h⟩
    · rintro ⟨i, hi, h⟩
      by_cases e : i = m
      · subst e; exact .inr h
      · exact .inl ⟨i, by omega, h⟩

theorem memb_self {f : Nat → ByteArray} {n i : Nat} (hi : i < n) : memb f (f i) n = true := memb_iff.2 ⟨i, hi, rfl⟩

/-- Of the first k of f those that are not among the first m of fc. -/
def restL (f fc : Nat → ByteArray) (m : Nat) : Nat → List ByteArray
  | 0 => []
  | k + 1 => restL f fc m k ++ (if memb fc (f k) m then [] else [f k])

theorem restL_yes {f fc : Nat → ByteArray} {m k : Nat} (h : memb fc (f k) m = true) : restL f fc m (k + 1) = restL f fc m k := by simp [restL, h]
theorem restL_no {f fc : Nat → ByteArray} {m k : Nat} (h : memb fc (f k) m = false) : restL f fc m (k + 1) = restL f fc m k ++ [f k] := by simp [restL, h]
theorem restL_le (f fc : Nat → ByteArray) (m k : Nat) : (restL f fc m k).length ≤ k := by
  induction k with
  | zero => simp [restL]
  | succ j ih =>
    cases h : memb fc (f j) m
    · rw [restL_no h]; simp; omega
    · rw [restL_yes h]; omega
theorem restL_mem {f fc : Nat → ByteArray} {m k : Nat} {s : ByteArray} : s ∈ restL f fc m k ↔ ∃ i, i < k ∧ memb fc (f i) m = false ∧ f i = s := by
  induction k with
  | zero => simp [restL]
  | succ j ih =>
    cases h : memb fc (f j) m
    · rw [restL_no h, List.mem_append, ih]
      constructor
      · rintro (⟨i, hi, h1, h2⟩ | h')
        · exact ⟨i, by omega, h1, h2⟩
        · simp at h'; exact ⟨j, by omega, h, h'.symm⟩
      · rintro ⟨i, hi, h1, h2⟩
        by_cases e : i = j
        · subst e; right; simp [h2]
        · exact .inl ⟨i, by omega, h1, h2⟩
    · rw [restL_yes h, ih]
      constructor
      · rintro ⟨i, hi, h1, h2⟩
        exact ⟨i, by omega, h1, h2⟩
      · rintro ⟨i, hi, h1, h2⟩
        by_cases e : i = j
        · subst e; rw [h] at h1; cases h1
        · exact ⟨i, by omega, h1, h2⟩

/-- A body is among the rest just where it is not among the chosen ones. -/
theorem memb_rest {f fc : Nat → ByteArray} {m n i : Nat} (hi : i < n) :
    memb (fun j => (restL f fc m n).getD j ByteArray.empty) (f i) (restL f fc m n).length = !memb fc (f i) m := by
  cases h : memb fc (f i) m
  · rw [Bool.not_false, memb_iff]
    have hm : f i ∈ restL f fc m n := restL_mem.2 ⟨i, hi, h, rfl⟩
    obtain ⟨j, hj, e⟩ := List.getElem_of_mem hm
    exact ⟨j, hj, by simp [hj, e]⟩
  · rw [Bool.not_true, ← Bool.not_eq_true, memb_iff]
    rintro ⟨j, hj, e⟩
    have hm : (restL f fc m n)[j] ∈ restL f fc m n := List.getElem_mem hj
    obtain ⟨i', hi', h1, h2⟩ := restL_mem.1 hm
    have e2 : (f i').toList = (f i).toList := by rw [h2, ← e]; simp [hj]
    rw [memb_congr e2, h] at h1
    cases h1

/-- The three picks. -/
theorem all_congr {f : Nat → ByteArray} {z : Nat → Int} {n : Nat} : limb (fun i => memb f (f i) n) z n = limb (fun _ => true) z n :=
  limb_congr fun _ hi => memb_self hi
theorem split_limb {f fc : Nat → ByteArray} {m n : Nat} {z : Nat → Int} :
    limb (fun _ => true) z n = limb (fun i => memb fc (f i) m) z n + limb (fun i => memb (fun j => (restL f fc m n).getD j ByteArray.empty) (f i) (restL f fc m n).length) z n := by
  refine limb_split fun i hi => ?_
  simp only [memb_rest hi]
  cases memb fc (f i) m <;> simp
end Go.Proofs.Qxb6612376a
