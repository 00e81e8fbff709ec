/-
  No cell of these rows narrows 'for every input' (looked for: loops, veiled, ifaces, maps, wideKeys, modest, calm, conditions, laid).
  DERIVED. THE GIVEN ROWS OF THIS SEAT. 2 by the template 'for every input the law returns true; each argument reads behind the call as it read before'; 0 by the template 'total and deterministic' (their statements: Qxb6612909aTotals.lean).
  GIVEN WITH THE SEED: the statements are not yours to turn. If you find one false, say at which input.
  Laid BY PROGRAM, IN A SANDBOX (cutbox-rows.mjs): the forced cells as the released guide's own fill.sh prints them over the translation 0c2441c4d94a07f0… (all of the seat's roots in one cut). By AI agents, Wed Nov 11 2026. No macro, syntax, notation, axiom, sorry.
-/
import Derived.Test.Qxb6612909aChecked
import GoSem.Claim
import GoSem.ClaimJoined
import GoSem.ClaimMapViews
import Derived.JoinedTies
import Derived.KernelRfl
namespace Go.Proofs.Qxb6612909a
/- THE CELL 'sum', in the pinned program and in every row, IS THE sha256 OF THE DUMP (.gsa) THAT Qxb6612909aProg.lean LOADS. Nothing in Lean hashes anything: it is a label: what it is worth is what the hold of that sum in a sandbox is worth. -/
noncomputable def Try.pinned : Pinned := { name := "qxb6612909a", sum := "0c2441c4d94a07f0b56dd6f8daa2b3b94921349f8373fe44b7d8228d0d38e591", checked := Try.checked }
namespace Rows
def none {H : Type} : Left H := { results := [], args := [] }

/-- 'zzlaws_regevent_b1.FnStartAtAnyCut': WHATEVER THE INPUT: true; the input reads as it did. -/
def fnStartAtAnyCutSpec : ChangeSpec := { name := "fnStartAtAnyCut", fn := fun _ => fun
  | [d1, d2, d3, d4] => { results := [.lit (.bool true)], args := [d1, d2, d3, d4] }
  | _ => none }
def fnStartAtAnyCutRow : OpenClaim := { program := "qxb6612909a", sum := "0c2441c4d94a07f0b56dd6f8daa2b3b94921349f8373fe44b7d8228d0d38e591", func := "example.com/reachwire/reachwire/zzlaws_regevent_b1.FnStartAtAnyCut", spec := "fnStartAtAnyCut", plainKeys := false, apart := false }
def FnStartAtAnyCutSaid : Prop := fnStartAtAnyCutRow.holds Try.pinned (OpenSpec.ofChange fnStartAtAnyCutSpec)

/-- ITS FALSE NEIGHBOUR: 'it returns false'. Refute it at one input. -/
def fnStartAtAnyCutWrong : ChangeSpec := { name := "fnStartAtAnyCut", fn := fun _ => fun
  | [d1, d2, d3, d4] => { results := [.lit (.bool false)], args := [d1, d2, d3, d4] }
  | _ => none }
def FnStartAtAnyCutWrongFalsely : Prop := fnStartAtAnyCutRow.holds Try.pinned (OpenSpec.ofChange fnStartAtAnyCutWrong)

/-- 'zzlaws_regevent_b1.FnNewSubscriberTwiceGivesTwo': WHATEVER THE INPUT: true; the input reads as it did. -/
def fnNewSubscriberTwiceGivesTwoSpec : ChangeSpec := { name := "fnNewSubscriberTwiceGivesTwo", fn := fun _ => fun
  | [d1, d2, d3, d4, d5, d6] => { results := [.lit (.bool true)], args := [d1, d2, d3, d4, d5, d6] }
  | _ => none }
def fnNewSubscriberTwiceGivesTwoRow : OpenClaim := { program := "qxb6612909a", sum := "0c2441c4d94a07f0b56dd6f8daa2b3b94921349f8373fe44b7d8228d0d38e591", func := "example.com/reachwire/reachwire/zzlaws_regevent_b1.FnNewSubscriberTwiceGivesTwo", spec := "fnNewSubscriberTwiceGivesTwo", plainKeys := false, apart := false }
def FnNewSubscriberTwiceGivesTwoSaid : Prop := fnNewSubscriberTwiceGivesTwoRow.holds Try.pinned (OpenSpec.ofChange fnNewSubscriberTwiceGivesTwoSpec)

/-- ITS FALSE NEIGHBOUR: 'it returns false'. Refute it at one input. -/
def fnNewSubscriberTwiceGivesTwoWrong : ChangeSpec := { name := "fnNewSubscriberTwiceGivesTwo", fn := fun _ => fun
  | [d1, d2, d3, d4, d5, d6] => { results := [.lit (.bool false)], args := [d1, d2, d3, d4, d5, d6] }
  | _ => none }
def FnNewSubscriberTwiceGivesTwoWrongFalsely : Prop := fnNewSubscriberTwiceGivesTwoRow.holds Try.pinned (OpenSpec.ofChange fnNewSubscriberTwiceGivesTwoWrong)

end Rows
end Go.Proofs.Qxb6612909a
