/-
  No cell of these rows narrows 'for every input' (looked for: loops, veiled, ifaces, maps, wideKeys, modest, calm, conditions, laid).
  DERIVED. THE GIVEN ROWS OF THIS SEAT. 1 by the template 'for every input the law returns true; each argument reads behind the call as it read before'; 0 by the template 'total and deterministic' (their statements: Qxb6612425aTotals.lean).
  GIVEN WITH THE SEED: the statements are not yours to turn. If you find one false, say at which input.
  Laid BY PROGRAM, IN A SANDBOX (cutbox-rows.mjs): the forced cells as the released guide's own fill.sh prints them over the translation 6947453c0a560712… (all of the seat's roots in one cut). By AI agents, Wed Nov 11 2026. No macro, syntax, notation, axiom, sorry.
-/
import Derived.Test.Qxb6612425aChecked
import GoSem.Claim
import GoSem.ClaimJoined
import GoSem.ClaimMapViews
import Derived.JoinedTies
import Derived.KernelRfl
namespace Go.Proofs.Qxb6612425a
/- THE CELL 'sum', in the pinned program and in every row, IS THE sha256 OF THE DUMP (.gsa) THAT Qxb6612425aProg.lean LOADS. Nothing in Lean hashes anything: it is a label: what it is worth is what the hold of that sum in a sandbox is worth. -/
noncomputable def Try.pinned : Pinned := { name := "qxb6612425a", sum := "6947453c0a560712951034462d446eebc98218e1252aa660f70b664ffae609cf", checked := Try.checked }
namespace Rows
def none {H : Type} : Left H := { results := [], args := [] }

/-- 'zzlaws_root_b1.FnOrderValidIsRetreatOrAttack': WHATEVER THE INPUT: true; the input reads as it did. -/
def fnOrderValidIsRetreatOrAttackSpec : ChangeSpec := { name := "fnOrderValidIsRetreatOrAttack", fn := fun _ => fun
  | [d] => { results := [.lit (.bool true)], args := [d] }
  | _ => none }
def fnOrderValidIsRetreatOrAttackRow : OpenClaim := { program := "qxb6612425a", sum := "6947453c0a560712951034462d446eebc98218e1252aa660f70b664ffae609cf", func := "example.com/loyalist/loyalist/zzlaws_root_b1.FnOrderValidIsRetreatOrAttack", spec := "fnOrderValidIsRetreatOrAttack", apart := false }
def FnOrderValidIsRetreatOrAttackSaid : Prop := fnOrderValidIsRetreatOrAttackRow.holds Try.pinned (OpenSpec.ofChange fnOrderValidIsRetreatOrAttackSpec)

/-- ITS FALSE NEIGHBOUR: 'it returns false'. Refute it at one input. -/
def fnOrderValidIsRetreatOrAttackWrong : ChangeSpec := { name := "fnOrderValidIsRetreatOrAttack", fn := fun _ => fun
  | [d] => { results := [.lit (.bool false)], args := [d] }
  | _ => none }
def FnOrderValidIsRetreatOrAttackWrongFalsely : Prop := fnOrderValidIsRetreatOrAttackRow.holds Try.pinned (OpenSpec.ofChange fnOrderValidIsRetreatOrAttackWrong)

end Rows
end Go.Proofs.Qxb6612425a
