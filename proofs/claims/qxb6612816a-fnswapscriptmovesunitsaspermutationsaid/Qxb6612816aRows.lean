/-
  No cell of these rows narrows 'for every input' (looked for: loops, veiled, ifaces, maps, wideKeys, modest, calm, conditions, laid).
  DERIVED. THE GIVEN ROWS OF THIS SEAT. 4 by the template 'for every input the law returns true; each argument reads behind the call as it read before'; 0 by the template 'total and deterministic' (their statements: Qxb6612816aTotals.lean).
  GIVEN WITH THE SEED: the statements are not yours to turn. If you find one false, say at which input.
  Laid BY PROGRAM, IN A SANDBOX (cutbox-rows.mjs): the forced cells as the released guide's own fill.sh prints them over the translation b8818fb8580ec60b… (all of the seat's roots in one cut). By AI agents, Wed Nov 11 2026. No macro, syntax, notation, axiom, sorry.
-/
import Derived.Test.Qxb6612816aChecked
import GoSem.Claim
import GoSem.ClaimJoined
import GoSem.ClaimMapViews
import Derived.JoinedTies
import Derived.KernelRfl
namespace Go.Proofs.Qxb6612816a
/- THE CELL 'sum', in the pinned program and in every row, IS THE sha256 OF THE DUMP (.gsa) THAT Qxb6612816aProg.lean LOADS. Nothing in Lean hashes anything: it is a label: what it is worth is what the hold of that sum in a sandbox is worth. -/
noncomputable def Try.pinned : Pinned := { name := "qxb6612816a", sum := "b8818fb8580ec60bd4fe07dc089bcf0eb53df713e8eff69324a116c54509fb97", checked := Try.checked }
namespace Rows
def none {H : Type} : Left H := { results := [], args := [] }

/-- 'zzlaws_root_b1.FnSwapScriptMovesUnitsAsPermutation': WHATEVER THE INPUT: true; the input reads as it did. -/
def fnSwapScriptMovesUnitsAsPermutationSpec : ChangeSpec := { name := "fnSwapScriptMovesUnitsAsPermutation", fn := fun _ => fun
  | [d1, d2] => { results := [.lit (.bool true)], args := [d1, d2] }
  | _ => none }
def fnSwapScriptMovesUnitsAsPermutationRow : OpenClaim := { program := "qxb6612816a", sum := "b8818fb8580ec60bd4fe07dc089bcf0eb53df713e8eff69324a116c54509fb97", func := "example.com/precondition/precondition/zzlaws_root_b1.FnSwapScriptMovesUnitsAsPermutation", spec := "fnSwapScriptMovesUnitsAsPermutation", apart := false }
def FnSwapScriptMovesUnitsAsPermutationSaid : Prop := fnSwapScriptMovesUnitsAsPermutationRow.holds Try.pinned (OpenSpec.ofChange fnSwapScriptMovesUnitsAsPermutationSpec)

/-- ITS FALSE NEIGHBOUR: 'it returns false'. Refute it at one input. -/
def fnSwapScriptMovesUnitsAsPermutationWrong : ChangeSpec := { name := "fnSwapScriptMovesUnitsAsPermutation", fn := fun _ => fun
  | [d1, d2] => { results := [.lit (.bool false)], args := [d1, d2] }
  | _ => none }
def FnSwapScriptMovesUnitsAsPermutationWrongFalsely : Prop := fnSwapScriptMovesUnitsAsPermutationRow.holds Try.pinned (OpenSpec.ofChange fnSwapScriptMovesUnitsAsPermutationWrong)

/-- 'zzlaws_root_b1.FnSwapToLastThenPopRemovesAt': WHATEVER THE INPUT: true; the input reads as it did. -/
def fnSwapToLastThenPopRemovesAtSpec : ChangeSpec := { name := "fnSwapToLastThenPopRemovesAt", fn := fun _ => fun
  | [d1, d2] => { results := [.lit (.bool true)], args := [d1, d2] }
  | _ => none }
def fnSwapToLastThenPopRemovesAtRow : OpenClaim := { program := "qxb6612816a", sum := "b8818fb8580ec60bd4fe07dc089bcf0eb53df713e8eff69324a116c54509fb97", func := "example.com/precondition/precondition/zzlaws_root_b1.FnSwapToLastThenPopRemovesAt", spec := "fnSwapToLastThenPopRemovesAt", apart := false }
def FnSwapToLastThenPopRemovesAtSaid : Prop := fnSwapToLastThenPopRemovesAtRow.holds Try.pinned (OpenSpec.ofChange fnSwapToLastThenPopRemovesAtSpec)

/-- ITS FALSE NEIGHBOUR: 'it returns false'. Refute it at one input. -/
def fnSwapToLastThenPopRemovesAtWrong : ChangeSpec := { name := "fnSwapToLastThenPopRemovesAt", fn := fun _ => fun
  | [d1, d2] => { results := [.lit (.bool false)], args := [d1, d2] }
  | _ => none }
def FnSwapToLastThenPopRemovesAtWrongFalsely : Prop := fnSwapToLastThenPopRemovesAtRow.holds Try.pinned (OpenSpec.ofChange fnSwapToLastThenPopRemovesAtWrong)

/-- 'zzlaws_root_b1.FnPushThenPopIsRoundTrip': WHATEVER THE INPUT: true; the input reads as it did. -/
def fnPushThenPopIsRoundTripSpec : ChangeSpec := { name := "fnPushThenPopIsRoundTrip", fn := fun _ => fun
  | [d] => { results := [.lit (.bool true)], args := [d] }
  | _ => none }
def fnPushThenPopIsRoundTripRow : OpenClaim := { program := "qxb6612816a", sum := "b8818fb8580ec60bd4fe07dc089bcf0eb53df713e8eff69324a116c54509fb97", func := "example.com/precondition/precondition/zzlaws_root_b1.FnPushThenPopIsRoundTrip", spec := "fnPushThenPopIsRoundTrip", apart := false }
def FnPushThenPopIsRoundTripSaid : Prop := fnPushThenPopIsRoundTripRow.holds Try.pinned (OpenSpec.ofChange fnPushThenPopIsRoundTripSpec)

/-- ITS FALSE NEIGHBOUR: 'it returns false'. Refute it at one input. -/
def fnPushThenPopIsRoundTripWrong : ChangeSpec := { name := "fnPushThenPopIsRoundTrip", fn := fun _ => fun
  | [d] => { results := [.lit (.bool false)], args := [d] }
  | _ => none }
def FnPushThenPopIsRoundTripWrongFalsely : Prop := fnPushThenPopIsRoundTripRow.holds Try.pinned (OpenSpec.ofChange fnPushThenPopIsRoundTripWrong)

/-- 'zzlaws_root_b1.FnPushManyThenPopAllComesBackReversed': WHATEVER THE INPUT: true; the input reads as it did. -/
def fnPushManyThenPopAllComesBackReversedSpec : ChangeSpec := { name := "fnPushManyThenPopAllComesBackReversed", fn := fun _ => fun
  | [d1, d2] => { results := [.lit (.bool true)], args := [d1, d2] }
  | _ => none }
def fnPushManyThenPopAllComesBackReversedRow : OpenClaim := { program := "qxb6612816a", sum := "b8818fb8580ec60bd4fe07dc089bcf0eb53df713e8eff69324a116c54509fb97", func := "example.com/precondition/precondition/zzlaws_root_b1.FnPushManyThenPopAllComesBackReversed", spec := "fnPushManyThenPopAllComesBackReversed", apart := false }
def FnPushManyThenPopAllComesBackReversedSaid : Prop := fnPushManyThenPopAllComesBackReversedRow.holds Try.pinned (OpenSpec.ofChange fnPushManyThenPopAllComesBackReversedSpec)

/-- ITS FALSE NEIGHBOUR: 'it returns false'. Refute it at one input. -/
def fnPushManyThenPopAllComesBackReversedWrong : ChangeSpec := { name := "fnPushManyThenPopAllComesBackReversed", fn := fun _ => fun
  | [d1, d2] => { results := [.lit (.bool false)], args := [d1, d2] }
  | _ => none }
def FnPushManyThenPopAllComesBackReversedWrongFalsely : Prop := fnPushManyThenPopAllComesBackReversedRow.holds Try.pinned (OpenSpec.ofChange fnPushManyThenPopAllComesBackReversedWrong)

end Rows
end Go.Proofs.Qxb6612816a
