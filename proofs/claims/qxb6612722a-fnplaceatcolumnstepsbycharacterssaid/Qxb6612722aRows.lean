/-
  No cell of these rows narrows 'for every input' (looked for: loops, veiled, ifaces, maps, wideKeys, modest, calm, conditions, laid).
  DERIVED. THE GIVEN ROWS OF THIS SEAT. 1 by the template 'for every input the law returns true; each argument reads behind the call as it read before'; 0 by the template 'total and deterministic' (their statements: Qxb6612722aTotals.lean).
  GIVEN WITH THE SEED: the statements are not yours to turn. If you find one false, say at which input.
  Laid BY PROGRAM, IN A SANDBOX (cutbox-rows.mjs): the forced cells as the released guide's own fill.sh prints them over the translation 5a6f85e730fbaad9… (all of the seat's roots in one cut). By AI agents, Wed Nov 11 2026. No macro, syntax, notation, axiom, sorry.
-/
import Derived.Test.Qxb6612722aChecked
import GoSem.Claim
import GoSem.ClaimJoined
import GoSem.ClaimMapViews
import Derived.JoinedTies
import Derived.KernelRfl
namespace Go.Proofs.Qxb6612722a
/- THE CELL 'sum', in the pinned program and in every row, IS THE sha256 OF THE DUMP (.gsa) THAT Qxb6612722aProg.lean LOADS. Nothing in Lean hashes anything: it is a label: what it is worth is what the hold of that sum in a sandbox is worth. -/
noncomputable def Try.pinned : Pinned := { name := "qxb6612722a", sum := "5a6f85e730fbaad9e0d7708474302ffe55c81a6cd7822fb7bf7bc36d162be9d3", checked := Try.checked }
namespace Rows
def none {H : Type} : Left H := { results := [], args := [] }

/-- 'zzlaws_pkg_yaml12_b1.FnPlaceAtColumnStepsByCharacters': WHATEVER THE INPUT: true; the input reads as it did. -/
def fnPlaceAtColumnStepsByCharactersSpec : ChangeSpec := { name := "fnPlaceAtColumnStepsByCharacters", fn := fun _ => fun
  | [d1, d2, d3, d4, d5, d6] => { results := [.lit (.bool true)], args := [d1, d2, d3, d4, d5, d6] }
  | _ => none }
def fnPlaceAtColumnStepsByCharactersRow : OpenClaim := { program := "qxb6612722a", sum := "5a6f85e730fbaad9e0d7708474302ffe55c81a6cd7822fb7bf7bc36d162be9d3", func := "example.com/sealwright/sealwright/zzlaws_pkg_yaml12_b1.FnPlaceAtColumnStepsByCharacters", spec := "fnPlaceAtColumnStepsByCharacters", apart := false }
def FnPlaceAtColumnStepsByCharactersSaid : Prop := fnPlaceAtColumnStepsByCharactersRow.holds Try.pinned (OpenSpec.ofChange fnPlaceAtColumnStepsByCharactersSpec)

/-- ITS FALSE NEIGHBOUR: 'it returns false'. Refute it at one input. -/
def fnPlaceAtColumnStepsByCharactersWrong : ChangeSpec := { name := "fnPlaceAtColumnStepsByCharacters", fn := fun _ => fun
  | [d1, d2, d3, d4, d5, d6] => { results := [.lit (.bool false)], args := [d1, d2, d3, d4, d5, d6] }
  | _ => none }
def FnPlaceAtColumnStepsByCharactersWrongFalsely : Prop := fnPlaceAtColumnStepsByCharactersRow.holds Try.pinned (OpenSpec.ofChange fnPlaceAtColumnStepsByCharactersWrong)

end Rows
end Go.Proofs.Qxb6612722a
