/-
  No cell of these rows narrows 'for every input' (looked for: loops, veiled, ifaces, maps, wideKeys, modest, calm, conditions, laid).
  DERIVED. THE GIVEN ROWS OF THIS SEAT. 6 by the template 'for every input the law returns true; each argument reads behind the call as it read before'; 0 by the template 'total and deterministic' (their statements: Qxb6612405aTotals.lean).
  GIVEN WITH THE SEED: the statements are not yours to turn. If you find one false, say at which input.
  Laid BY PROGRAM, IN A SANDBOX (cutbox-rows.mjs): the forced cells as the released guide's own fill.sh prints them over the translation 69f01afdb6dfa590… (all of the seat's roots in one cut). By AI agents, Wed Nov 11 2026. No macro, syntax, notation, axiom, sorry.
-/
import Derived.Test.Qxb6612405aChecked
import GoSem.Claim
import GoSem.ClaimJoined
import GoSem.ClaimMapViews
import Derived.JoinedTies
import Derived.KernelRfl
namespace Go.Proofs.Qxb6612405a
/- THE CELL 'sum', in the pinned program and in every row, IS THE sha256 OF THE DUMP (.gsa) THAT Qxb6612405aProg.lean LOADS. Nothing in Lean hashes anything: it is a label: what it is worth is what the hold of that sum in a sandbox is worth. -/
noncomputable def Try.pinned : Pinned := { name := "qxb6612405a", sum := "69f01afdb6dfa590f3e235788decf837967fd0cf6d6ef925a304a433e454474b", checked := Try.checked }
namespace Rows
def none {H : Type} : Left H := { results := [], args := [] }

/-- 'zzlaws_pkg_jsonl_b1.FnSpaceStopsAtFirstNonBlank': WHATEVER THE INPUT: true; the input reads as it did. -/
def fnSpaceStopsAtFirstNonBlankSpec : ChangeSpec := { name := "fnSpaceStopsAtFirstNonBlank", fn := fun _ => fun
  | [d] => { results := [.lit (.bool true)], args := [d] }
  | _ => none }
def fnSpaceStopsAtFirstNonBlankRow : OpenClaim := { program := "qxb6612405a", sum := "69f01afdb6dfa590f3e235788decf837967fd0cf6d6ef925a304a433e454474b", func := "example.com/windlass/windlass/zzlaws_pkg_jsonl_b1.FnSpaceStopsAtFirstNonBlank", spec := "fnSpaceStopsAtFirstNonBlank", unfollowed := true, recurses := true, apart := false }
def FnSpaceStopsAtFirstNonBlankSaid : Prop := fnSpaceStopsAtFirstNonBlankRow.holds Try.pinned (OpenSpec.ofChange fnSpaceStopsAtFirstNonBlankSpec)

/-- ITS FALSE NEIGHBOUR: 'it returns false'. Refute it at one input. -/
def fnSpaceStopsAtFirstNonBlankWrong : ChangeSpec := { name := "fnSpaceStopsAtFirstNonBlank", fn := fun _ => fun
  | [d] => { results := [.lit (.bool false)], args := [d] }
  | _ => none }
def FnSpaceStopsAtFirstNonBlankWrongFalsely : Prop := fnSpaceStopsAtFirstNonBlankRow.holds Try.pinned (OpenSpec.ofChange fnSpaceStopsAtFirstNonBlankWrong)

/-- 'zzlaws_pkg_jsonl_b1.FnSpaceIsIdempotentAndPeekSeesFirstNonBlank': WHATEVER THE INPUT: true; the input reads as it did. -/
def fnSpaceIsIdempotentAndPeekSeesFirstNonBlankSpec : ChangeSpec := { name := "fnSpaceIsIdempotentAndPeekSeesFirstNonBlank", fn := fun _ => fun
  | [d] => { results := [.lit (.bool true)], args := [d] }
  | _ => none }
def fnSpaceIsIdempotentAndPeekSeesFirstNonBlankRow : OpenClaim := { program := "qxb6612405a", sum := "69f01afdb6dfa590f3e235788decf837967fd0cf6d6ef925a304a433e454474b", func := "example.com/windlass/windlass/zzlaws_pkg_jsonl_b1.FnSpaceIsIdempotentAndPeekSeesFirstNonBlank", spec := "fnSpaceIsIdempotentAndPeekSeesFirstNonBlank", unfollowed := true, recurses := true, apart := false }
def FnSpaceIsIdempotentAndPeekSeesFirstNonBlankSaid : Prop := fnSpaceIsIdempotentAndPeekSeesFirstNonBlankRow.holds Try.pinned (OpenSpec.ofChange fnSpaceIsIdempotentAndPeekSeesFirstNonBlankSpec)

/-- ITS FALSE NEIGHBOUR: 'it returns false'. Refute it at one input. -/
def fnSpaceIsIdempotentAndPeekSeesFirstNonBlankWrong : ChangeSpec := { name := "fnSpaceIsIdempotentAndPeekSeesFirstNonBlank", fn := fun _ => fun
  | [d] => { results := [.lit (.bool false)], args := [d] }
  | _ => none }
def FnSpaceIsIdempotentAndPeekSeesFirstNonBlankWrongFalsely : Prop := fnSpaceIsIdempotentAndPeekSeesFirstNonBlankRow.holds Try.pinned (OpenSpec.ofChange fnSpaceIsIdempotentAndPeekSeesFirstNonBlankWrong)

/-- 'zzlaws_pkg_jsonl_b1.FnUnicodeDecodesEscapeChain': WHATEVER THE INPUT: true; the input reads as it did. -/
def fnUnicodeDecodesEscapeChainSpec : ChangeSpec := { name := "fnUnicodeDecodesEscapeChain", fn := fun _ => fun
  | [d1, d2] => { results := [.lit (.bool true)], args := [d1, d2] }
  | _ => none }
def fnUnicodeDecodesEscapeChainRow : OpenClaim := { program := "qxb6612405a", sum := "69f01afdb6dfa590f3e235788decf837967fd0cf6d6ef925a304a433e454474b", func := "example.com/windlass/windlass/zzlaws_pkg_jsonl_b1.FnUnicodeDecodesEscapeChain", spec := "fnUnicodeDecodesEscapeChain", unfollowed := true, recurses := true, apart := false }
def FnUnicodeDecodesEscapeChainSaid : Prop := fnUnicodeDecodesEscapeChainRow.holds Try.pinned (OpenSpec.ofChange fnUnicodeDecodesEscapeChainSpec)

/-- ITS FALSE NEIGHBOUR: 'it returns false'. Refute it at one input. -/
def fnUnicodeDecodesEscapeChainWrong : ChangeSpec := { name := "fnUnicodeDecodesEscapeChain", fn := fun _ => fun
  | [d1, d2] => { results := [.lit (.bool false)], args := [d1, d2] }
  | _ => none }
def FnUnicodeDecodesEscapeChainWrongFalsely : Prop := fnUnicodeDecodesEscapeChainRow.holds Try.pinned (OpenSpec.ofChange fnUnicodeDecodesEscapeChainWrong)

/-- 'zzlaws_pkg_jsonl_b1.FnUnicodeRoundTripsAScalarValue': WHATEVER THE INPUT: true; the input reads as it did. -/
def fnUnicodeRoundTripsAScalarValueSpec : ChangeSpec := { name := "fnUnicodeRoundTripsAScalarValue", fn := fun _ => fun
  | [d1, d2, d3, d4] => { results := [.lit (.bool true)], args := [d1, d2, d3, d4] }
  | _ => none }
def fnUnicodeRoundTripsAScalarValueRow : OpenClaim := { program := "qxb6612405a", sum := "69f01afdb6dfa590f3e235788decf837967fd0cf6d6ef925a304a433e454474b", func := "example.com/windlass/windlass/zzlaws_pkg_jsonl_b1.FnUnicodeRoundTripsAScalarValue", spec := "fnUnicodeRoundTripsAScalarValue", unfollowed := true, recurses := true, apart := false }
def FnUnicodeRoundTripsAScalarValueSaid : Prop := fnUnicodeRoundTripsAScalarValueRow.holds Try.pinned (OpenSpec.ofChange fnUnicodeRoundTripsAScalarValueSpec)

/-- ITS FALSE NEIGHBOUR: 'it returns false'. Refute it at one input. -/
def fnUnicodeRoundTripsAScalarValueWrong : ChangeSpec := { name := "fnUnicodeRoundTripsAScalarValue", fn := fun _ => fun
  | [d1, d2, d3, d4] => { results := [.lit (.bool false)], args := [d1, d2, d3, d4] }
  | _ => none }
def FnUnicodeRoundTripsAScalarValueWrongFalsely : Prop := fnUnicodeRoundTripsAScalarValueRow.holds Try.pinned (OpenSpec.ofChange fnUnicodeRoundTripsAScalarValueWrong)

/-- 'zzlaws_pkg_jsonl_b1.FnPutKeepsWholeRunesUpToKeep': WHATEVER THE INPUT: true; the input reads as it did. -/
def fnPutKeepsWholeRunesUpToKeepSpec : ChangeSpec := { name := "fnPutKeepsWholeRunesUpToKeep", fn := fun _ => fun
  | [d1, d2] => { results := [.lit (.bool true)], args := [d1, d2] }
  | _ => none }
def fnPutKeepsWholeRunesUpToKeepRow : OpenClaim := { program := "qxb6612405a", sum := "69f01afdb6dfa590f3e235788decf837967fd0cf6d6ef925a304a433e454474b", func := "example.com/windlass/windlass/zzlaws_pkg_jsonl_b1.FnPutKeepsWholeRunesUpToKeep", spec := "fnPutKeepsWholeRunesUpToKeep", apart := false }
def FnPutKeepsWholeRunesUpToKeepSaid : Prop := fnPutKeepsWholeRunesUpToKeepRow.holds Try.pinned (OpenSpec.ofChange fnPutKeepsWholeRunesUpToKeepSpec)

/-- ITS FALSE NEIGHBOUR: 'it returns false'. Refute it at one input. -/
def fnPutKeepsWholeRunesUpToKeepWrong : ChangeSpec := { name := "fnPutKeepsWholeRunesUpToKeep", fn := fun _ => fun
  | [d1, d2] => { results := [.lit (.bool false)], args := [d1, d2] }
  | _ => none }
def FnPutKeepsWholeRunesUpToKeepWrongFalsely : Prop := fnPutKeepsWholeRunesUpToKeepRow.holds Try.pinned (OpenSpec.ofChange fnPutKeepsWholeRunesUpToKeepWrong)

/-- 'zzlaws_pkg_jsonl_b1.FnPutAppendsOneRuneThatReadsBack': WHATEVER THE INPUT: true; the input reads as it did. -/
def fnPutAppendsOneRuneThatReadsBackSpec : ChangeSpec := { name := "fnPutAppendsOneRuneThatReadsBack", fn := fun _ => fun
  | [d1, d2, d3] => { results := [.lit (.bool true)], args := [d1, d2, d3] }
  | _ => none }
def fnPutAppendsOneRuneThatReadsBackRow : OpenClaim := { program := "qxb6612405a", sum := "69f01afdb6dfa590f3e235788decf837967fd0cf6d6ef925a304a433e454474b", func := "example.com/windlass/windlass/zzlaws_pkg_jsonl_b1.FnPutAppendsOneRuneThatReadsBack", spec := "fnPutAppendsOneRuneThatReadsBack", apart := false }
def FnPutAppendsOneRuneThatReadsBackSaid : Prop := fnPutAppendsOneRuneThatReadsBackRow.holds Try.pinned (OpenSpec.ofChange fnPutAppendsOneRuneThatReadsBackSpec)

/-- ITS FALSE NEIGHBOUR: 'it returns false'. Refute it at one input. -/
def fnPutAppendsOneRuneThatReadsBackWrong : ChangeSpec := { name := "fnPutAppendsOneRuneThatReadsBack", fn := fun _ => fun
  | [d1, d2, d3] => { results := [.lit (.bool false)], args := [d1, d2, d3] }
  | _ => none }
def FnPutAppendsOneRuneThatReadsBackWrongFalsely : Prop := fnPutAppendsOneRuneThatReadsBackRow.holds Try.pinned (OpenSpec.ofChange fnPutAppendsOneRuneThatReadsBackWrong)

end Rows
end Go.Proofs.Qxb6612405a
