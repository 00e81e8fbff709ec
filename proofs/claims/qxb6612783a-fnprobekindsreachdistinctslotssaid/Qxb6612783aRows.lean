/-
  No cell of these rows narrows 'for every input' (looked for: loops, veiled, ifaces, maps, wideKeys, modest, calm, conditions, laid).
  DERIVED. THE GIVEN ROWS OF THIS SEAT. 1 by the template 'for every input the law returns true; each argument reads behind the call as it read before'; 0 by the template 'total and deterministic' (their statements: Qxb6612783aTotals.lean).
  GIVEN WITH THE SEED: the statements are not yours to turn. If you find one false, say at which input.
  Laid BY PROGRAM, IN A SANDBOX (cutbox-rows.mjs): the forced cells as the released guide's own fill.sh prints them over the translation 56f51e3c247e2ace… (all of the seat's roots in one cut). By AI agents, Wed Nov 11 2026. No macro, syntax, notation, axiom, sorry.
-/
import Derived.Test.Qxb6612783aChecked
import GoSem.Claim
import GoSem.ClaimJoined
import GoSem.ClaimMapViews
import Derived.JoinedTies
import Derived.KernelRfl
namespace Go.Proofs.Qxb6612783a
/- THE CELL 'sum', in the pinned program and in every row, IS THE sha256 OF THE DUMP (.gsa) THAT Qxb6612783aProg.lean LOADS. Nothing in Lean hashes anything: it is a label: what it is worth is what the hold of that sum in a sandbox is worth. -/
noncomputable def Try.pinned : Pinned := { name := "qxb6612783a", sum := "56f51e3c247e2aceeee5bcaff4d02f621eca786709db48276cbc64e3bb78d10f", checked := Try.checked }
namespace Rows
def none {H : Type} : Left H := { results := [], args := [] }

/-- 'zzlaws_internal_api_b1.FnProbeKindsReachDistinctSlots': WHATEVER THE INPUT: true; the input reads as it did. -/
def fnProbeKindsReachDistinctSlotsSpec : ChangeSpec := { name := "fnProbeKindsReachDistinctSlots", fn := fun _ => fun
  | [d1, d2, d3, d4, d5] => { results := [.lit (.bool true)], args := [d1, d2, d3, d4, d5] }
  | _ => none }
def fnProbeKindsReachDistinctSlotsRow : OpenClaim := { program := "qxb6612783a", sum := "56f51e3c247e2aceeee5bcaff4d02f621eca786709db48276cbc64e3bb78d10f", func := "example.com/cohort/cohort/zzlaws_internal_api_b1.FnProbeKindsReachDistinctSlots", spec := "fnProbeKindsReachDistinctSlots", apart := false }
def FnProbeKindsReachDistinctSlotsSaid : Prop := fnProbeKindsReachDistinctSlotsRow.holds Try.pinned (OpenSpec.ofChange fnProbeKindsReachDistinctSlotsSpec)

/-- ITS FALSE NEIGHBOUR: 'it returns false'. Refute it at one input. -/
def fnProbeKindsReachDistinctSlotsWrong : ChangeSpec := { name := "fnProbeKindsReachDistinctSlots", fn := fun _ => fun
  | [d1, d2, d3, d4, d5] => { results := [.lit (.bool false)], args := [d1, d2, d3, d4, d5] }
  | _ => none }
def FnProbeKindsReachDistinctSlotsWrongFalsely : Prop := fnProbeKindsReachDistinctSlotsRow.holds Try.pinned (OpenSpec.ofChange fnProbeKindsReachDistinctSlotsWrong)

end Rows
end Go.Proofs.Qxb6612783a
