/-
  No cell of these rows narrows 'for every input' (looked for: loops, veiled, ifaces, maps, wideKeys, modest, calm, conditions, laid).
  DERIVED. THE GIVEN ROWS OF THIS SEAT. 4 by the template 'for every input the law returns true; each argument reads behind the call as it read before'; 0 by the template 'total and deterministic' (their statements: Qxb6612376aTotals.lean).
  GIVEN WITH THE SEED: the statements are not yours to turn. If you find one false, say at which input.
  Laid BY PROGRAM, IN A SANDBOX (cutbox-rows.mjs): the forced cells as the released guide's own fill.sh prints them over the translation d10da366388ddae7… (all of the seat's roots in one cut). By AI agents, Wed Nov 11 2026. No macro, syntax, notation, axiom, sorry.
-/
import Derived.Test.Qxb6612376aChecked
import GoSem.Claim
import GoSem.ClaimJoined
import GoSem.ClaimMapViews
import Derived.JoinedTies
import Derived.KernelRfl
namespace Go.Proofs.Qxb6612376a
/- THE CELL 'sum', in the pinned program and in every row, IS THE sha256 OF THE DUMP (.gsa) THAT Qxb6612376aProg.lean LOADS. Nothing in Lean hashes anything: it is a label: what it is worth is what the hold of that sum in a sandbox is worth. -/
noncomputable def Try.pinned : Pinned := { name := "qxb6612376a", sum := "d10da366388ddae79a2e14f3ffc144a450257242b863303a208457c7d31cc04d", checked := Try.checked }
namespace Rows
def none {H : Type} : Left H := { results := [], args := [] }

/-- 'zzlaws_internal_ledger_b1.FnSumMinusIs128BitSubtraction': WHATEVER THE INPUT: true; the input reads as it did. -/
def fnSumMinusIs128BitSubtractionSpec : ChangeSpec := { name := "fnSumMinusIs128BitSubtraction", fn := fun _ => fun
  | [d1, d2, d3, d4, d5, d6] => { results := [.lit (.bool true)], args := [d1, d2, d3, d4, d5, d6] }
  | _ => none }
def fnSumMinusIs128BitSubtractionRow : OpenClaim := { program := "qxb6612376a", sum := "d10da366388ddae79a2e14f3ffc144a450257242b863303a208457c7d31cc04d", func := "example.com/armslength/armslength/zzlaws_internal_ledger_b1.FnSumMinusIs128BitSubtraction", spec := "fnSumMinusIs128BitSubtraction", inPlace := ["math/bits.Sub64"], apart := false }
def FnSumMinusIs128BitSubtractionSaid : Prop := fnSumMinusIs128BitSubtractionRow.holds Try.pinned (OpenSpec.ofChange fnSumMinusIs128BitSubtractionSpec)

/-- ITS FALSE NEIGHBOUR: 'it returns false'. Refute it at one input. -/
def fnSumMinusIs128BitSubtractionWrong : ChangeSpec := { name := "fnSumMinusIs128BitSubtraction", fn := fun _ => fun
  | [d1, d2, d3, d4, d5, d6] => { results := [.lit (.bool false)], args := [d1, d2, d3, d4, d5, d6] }
  | _ => none }
def FnSumMinusIs128BitSubtractionWrongFalsely : Prop := fnSumMinusIs128BitSubtractionRow.holds Try.pinned (OpenSpec.ofChange fnSumMinusIs128BitSubtractionWrong)

/-- 'zzlaws_internal_ledger_b1.FnSumMinusUndoesPlus': WHATEVER THE INPUT: true; the input reads as it did. -/
def fnSumMinusUndoesPlusSpec : ChangeSpec := { name := "fnSumMinusUndoesPlus", fn := fun _ => fun
  | [d1, d2, d3, d4, d5, d6] => { results := [.lit (.bool true)], args := [d1, d2, d3, d4, d5, d6] }
  | _ => none }
def fnSumMinusUndoesPlusRow : OpenClaim := { program := "qxb6612376a", sum := "d10da366388ddae79a2e14f3ffc144a450257242b863303a208457c7d31cc04d", func := "example.com/armslength/armslength/zzlaws_internal_ledger_b1.FnSumMinusUndoesPlus", spec := "fnSumMinusUndoesPlus", inPlace := ["math/bits.Add64", "math/bits.Sub64"], apart := false }
def FnSumMinusUndoesPlusSaid : Prop := fnSumMinusUndoesPlusRow.holds Try.pinned (OpenSpec.ofChange fnSumMinusUndoesPlusSpec)

/-- ITS FALSE NEIGHBOUR: 'it returns false'. Refute it at one input. -/
def fnSumMinusUndoesPlusWrong : ChangeSpec := { name := "fnSumMinusUndoesPlus", fn := fun _ => fun
  | [d1, d2, d3, d4, d5, d6] => { results := [.lit (.bool false)], args := [d1, d2, d3, d4, d5, d6] }
  | _ => none }
def FnSumMinusUndoesPlusWrongFalsely : Prop := fnSumMinusUndoesPlusRow.holds Try.pinned (OpenSpec.ofChange fnSumMinusUndoesPlusWrong)

/-- 'zzlaws_internal_ledger_b1.FnTotalsCountedSumsChosenBodies': WHATEVER THE INPUT: true; the input reads as it did. -/
def fnTotalsCountedSumsChosenBodiesSpec : ChangeSpec := { name := "fnTotalsCountedSumsChosenBodies", fn := fun _ => fun
  | [d1, d2, d3, d4, d5] => { results := [.lit (.bool true)], args := [d1, d2, d3, d4, d5] }
  | _ => none }
def fnTotalsCountedSumsChosenBodiesRow : OpenClaim := { program := "qxb6612376a", sum := "d10da366388ddae79a2e14f3ffc144a450257242b863303a208457c7d31cc04d", func := "example.com/armslength/armslength/zzlaws_internal_ledger_b1.FnTotalsCountedSumsChosenBodies", spec := "fnTotalsCountedSumsChosenBodies", inPlace := ["math/bits.Add64"], unfollowed := true, recurses := true, apart := false }
def FnTotalsCountedSumsChosenBodiesSaid : Prop := fnTotalsCountedSumsChosenBodiesRow.holds Try.pinned (OpenSpec.ofChange fnTotalsCountedSumsChosenBodiesSpec)

/-- ITS FALSE NEIGHBOUR: 'it returns false'. Refute it at one input. -/
def fnTotalsCountedSumsChosenBodiesWrong : ChangeSpec := { name := "fnTotalsCountedSumsChosenBodies", fn := fun _ => fun
  | [d1, d2, d3, d4, d5] => { results := [.lit (.bool false)], args := [d1, d2, d3, d4, d5] }
  | _ => none }
def FnTotalsCountedSumsChosenBodiesWrongFalsely : Prop := fnTotalsCountedSumsChosenBodiesRow.holds Try.pinned (OpenSpec.ofChange fnTotalsCountedSumsChosenBodiesWrong)

/-- 'zzlaws_internal_ledger_b1.FnTotalsCountedSplitsByChosenAndRest': WHATEVER THE INPUT: true; the input reads as it did. -/
def fnTotalsCountedSplitsByChosenAndRestSpec : ChangeSpec := { name := "fnTotalsCountedSplitsByChosenAndRest", fn := fun _ => fun
  | [d1, d2, d3, d4, d5] => { results := [.lit (.bool true)], args := [d1, d2, d3, d4, d5] }
  | _ => none }
def fnTotalsCountedSplitsByChosenAndRestRow : OpenClaim := { program := "qxb6612376a", sum := "d10da366388ddae79a2e14f3ffc144a450257242b863303a208457c7d31cc04d", func := "example.com/armslength/armslength/zzlaws_internal_ledger_b1.FnTotalsCountedSplitsByChosenAndRest", spec := "fnTotalsCountedSplitsByChosenAndRest", inPlace := ["math/bits.Add64", "math/bits.Sub64"], unfollowed := true, recurses := true, apart := false }
def FnTotalsCountedSplitsByChosenAndRestSaid : Prop := fnTotalsCountedSplitsByChosenAndRestRow.holds Try.pinned (OpenSpec.ofChange fnTotalsCountedSplitsByChosenAndRestSpec)

/-- ITS FALSE NEIGHBOUR: 'it returns false'. Refute it at one input. -/
def fnTotalsCountedSplitsByChosenAndRestWrong : ChangeSpec := { name := "fnTotalsCountedSplitsByChosenAndRest", fn := fun _ => fun
  | [d1, d2, d3, d4, d5] => { results := [.lit (.bool false)], args := [d1, d2, d3, d4, d5] }
  | _ => none }
def FnTotalsCountedSplitsByChosenAndRestWrongFalsely : Prop := fnTotalsCountedSplitsByChosenAndRestRow.holds Try.pinned (OpenSpec.ofChange fnTotalsCountedSplitsByChosenAndRestWrong)

end Rows
end Go.Proofs.Qxb6612376a
