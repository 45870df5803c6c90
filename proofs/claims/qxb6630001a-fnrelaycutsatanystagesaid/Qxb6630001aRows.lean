/-
  No cell of these rows narrows 'for every input' (looked for: loops, veiled, ifaces, maps, wideKeys, modest, calm, conditions, laid).
  DERIVED. THE GIVEN ROWS OF THIS SEAT. 2 by the template 'for every input the law returns true; each argument reads behind the call as it read before'; 0 by the template 'total and deterministic' (their statements: Qxb6630001aTotals.lean).
  GIVEN WITH THE SEED: the statements are not yours to turn. If you find one false, say at which input.
  Laid BY PROGRAM, IN A SANDBOX (cutbox-rows.mjs): the forced cells as the released guide's own fill.sh prints them over the translation 37f1e0db6bc95626… (all of the seat's roots in one cut). By AI agents, Wed Nov 11 2026. No macro, syntax, notation, axiom, sorry.
-/
import Derived.Test.Qxb6630001aChecked
import GoSem.Claim
import GoSem.ClaimJoined
import GoSem.ClaimMapViews
import Derived.JoinedTies
import Derived.KernelRfl
namespace Go.Proofs.Qxb6630001a
/- THE CELL 'sum', in the pinned program and in every row, IS THE sha256 OF THE DUMP (.gsa) THAT Qxb6630001aProg.lean LOADS. Nothing in Lean hashes anything: it is a label: what it is worth is what the hold of that sum in a sandbox is worth. -/
noncomputable def Try.pinned : Pinned := { name := "qxb6630001a", sum := "37f1e0db6bc9562696cb0484d79ee1bfe1ab5999c1b575f39e84691d89a374b1", checked := Try.checked }
namespace Rows
def none {H : Type} : Left H := { results := [], args := [] }

/-- 'zzlaws_root_b1.FnRelayAppendsEveryOtherRepInOrder': WHATEVER THE INPUT: true; the input reads as it did. -/
def fnRelayAppendsEveryOtherRepInOrderSpec : ChangeSpec := { name := "fnRelayAppendsEveryOtherRepInOrder", fn := fun _ => fun
  | [d1, d2, d3, d4, d5, d6] => { results := [.lit (.bool true)], args := [d1, d2, d3, d4, d5, d6] }
  | _ => none }
def fnRelayAppendsEveryOtherRepInOrderRow : OpenClaim := { program := "qxb6630001a", sum := "37f1e0db6bc9562696cb0484d79ee1bfe1ab5999c1b575f39e84691d89a374b1", func := "example.com/spanwood/spanwood/zzlaws_root_b1.FnRelayAppendsEveryOtherRepInOrder", spec := "fnRelayAppendsEveryOtherRepInOrder", apart := false }
def FnRelayAppendsEveryOtherRepInOrderSaid : Prop := fnRelayAppendsEveryOtherRepInOrderRow.holds Try.pinned (OpenSpec.ofChange fnRelayAppendsEveryOtherRepInOrderSpec)

/-- ITS FALSE NEIGHBOUR: 'it returns false'. Refute it at one input. -/
def fnRelayAppendsEveryOtherRepInOrderWrong : ChangeSpec := { name := "fnRelayAppendsEveryOtherRepInOrder", fn := fun _ => fun
  | [d1, d2, d3, d4, d5, d6] => { results := [.lit (.bool false)], args := [d1, d2, d3, d4, d5, d6] }
  | _ => none }
def FnRelayAppendsEveryOtherRepInOrderWrongFalsely : Prop := fnRelayAppendsEveryOtherRepInOrderRow.holds Try.pinned (OpenSpec.ofChange fnRelayAppendsEveryOtherRepInOrderWrong)

/-- 'zzlaws_root_b1.FnRelayCutsAtAnyStage': WHATEVER THE INPUT: true; the input reads as it did. -/
def fnRelayCutsAtAnyStageSpec : ChangeSpec := { name := "fnRelayCutsAtAnyStage", fn := fun _ => fun
  | [d1, d2, d3, d4, d5, d6, d7] => { results := [.lit (.bool true)], args := [d1, d2, d3, d4, d5, d6, d7] }
  | _ => none }
def fnRelayCutsAtAnyStageRow : OpenClaim := { program := "qxb6630001a", sum := "37f1e0db6bc9562696cb0484d79ee1bfe1ab5999c1b575f39e84691d89a374b1", func := "example.com/spanwood/spanwood/zzlaws_root_b1.FnRelayCutsAtAnyStage", spec := "fnRelayCutsAtAnyStage", apart := false }
def FnRelayCutsAtAnyStageSaid : Prop := fnRelayCutsAtAnyStageRow.holds Try.pinned (OpenSpec.ofChange fnRelayCutsAtAnyStageSpec)

/-- ITS FALSE NEIGHBOUR: 'it returns false'. Refute it at one input. -/
def fnRelayCutsAtAnyStageWrong : ChangeSpec := { name := "fnRelayCutsAtAnyStage", fn := fun _ => fun
  | [d1, d2, d3, d4, d5, d6, d7] => { results := [.lit (.bool false)], args := [d1, d2, d3, d4, d5, d6, d7] }
  | _ => none }
def FnRelayCutsAtAnyStageWrongFalsely : Prop := fnRelayCutsAtAnyStageRow.holds Try.pinned (OpenSpec.ofChange fnRelayCutsAtAnyStageWrong)

end Rows
end Go.Proofs.Qxb6630001a
