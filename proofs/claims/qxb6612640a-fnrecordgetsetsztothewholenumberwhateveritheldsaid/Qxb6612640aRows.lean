/-
  No cell of these rows narrows 'for every input' (looked for: loops, veiled, ifaces, maps, wideKeys, modest, calm, conditions, laid).
  DERIVED. THE GIVEN ROWS OF THIS SEAT. 4 by the template 'for every input the law returns true; each argument reads behind the call as it read before'; 0 by the template 'total and deterministic' (their statements: Qxb6612640aTotals.lean).
  GIVEN WITH THE SEED: the statements are not yours to turn. If you find one false, say at which input.
  Laid BY PROGRAM, IN A SANDBOX (cutbox-rows.mjs): the forced cells as the released guide's own fill.sh prints them over the translation b139e8d21eb67f51… (all of the seat's roots in one cut). By AI agents, Wed Nov 11 2026. No macro, syntax, notation, axiom, sorry.
-/
import Derived.Test.Qxb6612640aChecked
import GoSem.Claim
import GoSem.ClaimJoined
import GoSem.ClaimMapViews
import Derived.JoinedTies
import Derived.KernelRfl
namespace Go.Proofs.Qxb6612640a
/- THE CELL 'sum', in the pinned program and in every row, IS THE sha256 OF THE DUMP (.gsa) THAT Qxb6612640aProg.lean LOADS. Nothing in Lean hashes anything: it is a label: what it is worth is what the hold of that sum in a sandbox is worth. -/
noncomputable def Try.pinned : Pinned := { name := "qxb6612640a", sum := "b139e8d21eb67f517283ff8737fa5db3b07c50b1792b957de809c35f5d2728ca", checked := Try.checked }
namespace Rows
def none {H : Type} : Left H := { results := [], args := [] }

/-- 'zzlaws_pkg_ledger_b1.FnRecordGetSetsZToTheWholeNumberWhateverItHeld': WHATEVER THE INPUT: true; the input reads as it did. -/
def fnRecordGetSetsZToTheWholeNumberWhateverItHeldSpec : ChangeSpec := { name := "fnRecordGetSetsZToTheWholeNumberWhateverItHeld", fn := fun _ => fun
  | [d1, d2, d3, d4, d5] => { results := [.lit (.bool true)], args := [d1, d2, d3, d4, d5] }
  | _ => none }
def fnRecordGetSetsZToTheWholeNumberWhateverItHeldRow : OpenClaim := { program := "qxb6612640a", sum := "b139e8d21eb67f517283ff8737fa5db3b07c50b1792b957de809c35f5d2728ca", func := "example.com/allotment/allotment/zzlaws_pkg_ledger_b1.FnRecordGetSetsZToTheWholeNumberWhateverItHeld", spec := "fnRecordGetSetsZToTheWholeNumberWhateverItHeld", apart := false }
def FnRecordGetSetsZToTheWholeNumberWhateverItHeldSaid : Prop := fnRecordGetSetsZToTheWholeNumberWhateverItHeldRow.holds Try.pinned (OpenSpec.ofChange fnRecordGetSetsZToTheWholeNumberWhateverItHeldSpec)

/-- ITS FALSE NEIGHBOUR: 'it returns false'. Refute it at one input. -/
def fnRecordGetSetsZToTheWholeNumberWhateverItHeldWrong : ChangeSpec := { name := "fnRecordGetSetsZToTheWholeNumberWhateverItHeld", fn := fun _ => fun
  | [d1, d2, d3, d4, d5] => { results := [.lit (.bool false)], args := [d1, d2, d3, d4, d5] }
  | _ => none }
def FnRecordGetSetsZToTheWholeNumberWhateverItHeldWrongFalsely : Prop := fnRecordGetSetsZToTheWholeNumberWhateverItHeldRow.holds Try.pinned (OpenSpec.ofChange fnRecordGetSetsZToTheWholeNumberWhateverItHeldWrong)

/-- 'zzlaws_pkg_ledger_b1.FnAccountLockedIsTheLotsOwnNumberOrAFreshZero': WHATEVER THE INPUT: true; the input reads as it did. -/
def fnAccountLockedIsTheLotsOwnNumberOrAFreshZeroSpec : ChangeSpec := { name := "fnAccountLockedIsTheLotsOwnNumberOrAFreshZero", fn := fun _ => fun
  | [d1, d2, d3] => { results := [.lit (.bool true)], args := [d1, d2, d3] }
  | _ => none }
def fnAccountLockedIsTheLotsOwnNumberOrAFreshZeroRow : OpenClaim := { program := "qxb6612640a", sum := "b139e8d21eb67f517283ff8737fa5db3b07c50b1792b957de809c35f5d2728ca", func := "example.com/allotment/allotment/zzlaws_pkg_ledger_b1.FnAccountLockedIsTheLotsOwnNumberOrAFreshZero", spec := "fnAccountLockedIsTheLotsOwnNumberOrAFreshZero", apart := false }
def FnAccountLockedIsTheLotsOwnNumberOrAFreshZeroSaid : Prop := fnAccountLockedIsTheLotsOwnNumberOrAFreshZeroRow.holds Try.pinned (OpenSpec.ofChange fnAccountLockedIsTheLotsOwnNumberOrAFreshZeroSpec)

/-- ITS FALSE NEIGHBOUR: 'it returns false'. Refute it at one input. -/
def fnAccountLockedIsTheLotsOwnNumberOrAFreshZeroWrong : ChangeSpec := { name := "fnAccountLockedIsTheLotsOwnNumberOrAFreshZero", fn := fun _ => fun
  | [d1, d2, d3] => { results := [.lit (.bool false)], args := [d1, d2, d3] }
  | _ => none }
def FnAccountLockedIsTheLotsOwnNumberOrAFreshZeroWrongFalsely : Prop := fnAccountLockedIsTheLotsOwnNumberOrAFreshZeroRow.holds Try.pinned (OpenSpec.ofChange fnAccountLockedIsTheLotsOwnNumberOrAFreshZeroWrong)

/-- 'zzlaws_pkg_ledger_b1.FnNameReadsEachNameLaidInOrder': WHATEVER THE INPUT: true; the input reads as it did. -/
def fnNameReadsEachNameLaidInOrderSpec : ChangeSpec := { name := "fnNameReadsEachNameLaidInOrder", fn := fun _ => fun
  | [d] => { results := [.lit (.bool true)], args := [d] }
  | _ => none }
def fnNameReadsEachNameLaidInOrderRow : OpenClaim := { program := "qxb6612640a", sum := "b139e8d21eb67f517283ff8737fa5db3b07c50b1792b957de809c35f5d2728ca", func := "example.com/allotment/allotment/zzlaws_pkg_ledger_b1.FnNameReadsEachNameLaidInOrder", spec := "fnNameReadsEachNameLaidInOrder", apart := false }
def FnNameReadsEachNameLaidInOrderSaid : Prop := fnNameReadsEachNameLaidInOrderRow.holds Try.pinned (OpenSpec.ofChange fnNameReadsEachNameLaidInOrderSpec)

/-- ITS FALSE NEIGHBOUR: 'it returns false'. Refute it at one input. -/
def fnNameReadsEachNameLaidInOrderWrong : ChangeSpec := { name := "fnNameReadsEachNameLaidInOrder", fn := fun _ => fun
  | [d] => { results := [.lit (.bool false)], args := [d] }
  | _ => none }
def FnNameReadsEachNameLaidInOrderWrongFalsely : Prop := fnNameReadsEachNameLaidInOrderRow.holds Try.pinned (OpenSpec.ofChange fnNameReadsEachNameLaidInOrderWrong)

/-- 'zzlaws_pkg_ledger_b1.FnNameIsACopyOfTheBytes': WHATEVER THE INPUT: true; the input reads as it did. -/
def fnNameIsACopyOfTheBytesSpec : ChangeSpec := { name := "fnNameIsACopyOfTheBytes", fn := fun _ => fun
  | [d1, d2, d3, d4] => { results := [.lit (.bool true)], args := [d1, d2, d3, d4] }
  | _ => none }
def fnNameIsACopyOfTheBytesRow : OpenClaim := { program := "qxb6612640a", sum := "b139e8d21eb67f517283ff8737fa5db3b07c50b1792b957de809c35f5d2728ca", func := "example.com/allotment/allotment/zzlaws_pkg_ledger_b1.FnNameIsACopyOfTheBytes", spec := "fnNameIsACopyOfTheBytes", apart := false }
def FnNameIsACopyOfTheBytesSaid : Prop := fnNameIsACopyOfTheBytesRow.holds Try.pinned (OpenSpec.ofChange fnNameIsACopyOfTheBytesSpec)

/-- ITS FALSE NEIGHBOUR: 'it returns false'. Refute it at one input. -/
def fnNameIsACopyOfTheBytesWrong : ChangeSpec := { name := "fnNameIsACopyOfTheBytes", fn := fun _ => fun
  | [d1, d2, d3, d4] => { results := [.lit (.bool false)], args := [d1, d2, d3, d4] }
  | _ => none }
def FnNameIsACopyOfTheBytesWrongFalsely : Prop := fnNameIsACopyOfTheBytesRow.holds Try.pinned (OpenSpec.ofChange fnNameIsACopyOfTheBytesWrong)

end Rows
end Go.Proofs.Qxb6612640a
