/-
  OPENING THE ARGUMENTS: slices of strings and of integers as rows of cells.
-/
import Derived.Test.Qxb6612376aRead
import Derived.ProofKit
import Derived.OpenShut
import Derived.SliceStrings
import Derived.Carry
namespace Go.Proofs.Qxb6612376a
open Go.ChangeShapes Go.WideShapes Go.ChangeAt Go.RowKit

section
variable {H : Type} {enc : TypeId × Value → H} {W : World}

theorem crow_strs {t e : TypeId} {fuel : Nat} {a : Option Addr} {len cap : Nat} {x : DataW H × List MemPlace} (ht : Try.prog.underlying t = some (.slice e)) (he : Try.prog.underlying e = some .string) (hc : Try.prog.cellsOf e = 1)
    (h : DataW.trod enc Try.prog W 0 (fun _ => true) true fuel t (Value.slice a len cap).cells.toList = some x) :
    ∃ f : Nat → ByteArray, CRow W a len (fun i => .string (f i)) := by
  rcases open_strings ht he hc h with ⟨hcs, _⟩ | ⟨y, l, c, ss, hcs, _, hl, hm, hz, _, hcell, _⟩
  · simp [Value.cells] at hcs
    obtain ⟨rfl, rfl, rfl⟩ := hcs
    exact ⟨fun _ => ByteArray.empty, by omega, .inl rfl⟩
  · simp [Value.cells] at hcs
    obtain ⟨rfl, rfl, rfl⟩ := hcs
    simp only [if_true] at hz
    unfold maxLen at hm
    refine ⟨fun i => ss.getD i ByteArray.empty, by omega, ?_⟩
    by_cases h0 : len = 0
    · exact .inl h0
    obtain ⟨b, off, spot⟩ := y
    have hspot : spot = none := by simpa [Addr.add] using World.cell?_spot (hcell 0 (by omega))
    subst hspot
    have hc' : ∀ i, i < len → W.cell? ⟨b, off + i, none⟩ = some (.string (ss.getD i ByteArray.empty)) := fun i hi => by
      rw [← add_plain]; exact hcell i (by omega)
    exact .inr ⟨b, off, rfl, World.block_lt_of_cell? _ _ (hc' 0 (by omega)), hc'⟩

theorem crow_ints {k : IntKind} {t e : TypeId} {fuel : Nat} {a : Option Addr} {len cap : Nat} {x : DataW H × List MemPlace} (ht : Try.prog.underlying t = some (.slice e)) (he : Try.prog.underlying e = some (.int k)) (hc : Try.prog.cellsOf e = 1)
    (h : DataW.trod enc Try.prog W 0 (fun _ => true) true fuel t (Value.slice a len cap).cells.toList = some x) (hz0 : (Lit.int k 0).wf = true) :
    ∃ z : Nat → Int, CRow W a len (fun i => .int k (z i)) ∧ ∀ i, (Lit.int k (z i)).wf = true := by
  rcases open_ints ht he hc h with ⟨hcs, _⟩ | ⟨y, l, c, zs, hcs, _, hl, hm, hz, _, hcell, hwz⟩
  · simp [Value.cells] at hcs
    obtain ⟨rfl, rfl, rfl⟩ := hcs
    exact ⟨fun _ => 0, ⟨by omega, .inl rfl⟩, fun _ => hz0⟩
  · simp [Value.cells] at hcs
    obtain ⟨rfl, rfl, rfl⟩ := hcs
    simp only [if_true] at hz
    unfold maxLen at hm
    refine ⟨fun i => zs.getD i 0, ⟨by omega, ?_⟩, fun i => ?_⟩
    · by_cases h0 : len = 0
      · exact .inl h0
      obtain ⟨b, off, rfl, hc'⟩ := ints_at hcell (by omega)
      exact .inr ⟨b, off, rfl, World.block_lt_of_cell? _ _ (hc' 0 (by omega)), fun i hi => hc' i (by omega)⟩
    · show (Lit.int k (zs.getD i 0)).wf = true
      by_cases hi : i < zs.length
      · have : zs.getD i 0 = zs[i] := by simp [hi]
        rw [this]
        exact hwz _ (List.getElem_mem hi)
      · have : zs.getD i 0 = 0 := by simp [Nat.le_of_not_lt hi]
        rw [this]
        exact hz0
end
end Go.Proofs.Qxb6612376a
