/-
  No cell of these rows narrows 'for every input' (looked for: loops, veiled, ifaces, maps, wideKeys, modest, calm, conditions, laid).
  DERIVED. THE GIVEN ROWS OF THIS SEAT. 2 by the template 'for every input the law returns true; each argument reads behind the call as it read before'; 0 by the template 'total and deterministic' (their statements: Qxb6628981aTotals.lean).
  GIVEN WITH THE SEED: the statements are not yours to turn. If you find one false, say at which input.
  Laid BY PROGRAM, IN A SANDBOX (cutbox-rows.mjs): the forced cells as the released guide's own fill.sh prints them over the translation 0d3293c4524942ea… (all of the seat's roots in one cut). By AI agents, Wed Nov 11 2026. No macro, syntax, notation, axiom, sorry.
-/
import Derived.Test.Qxb6628981aChecked
import GoSem.Claim
import GoSem.ClaimJoined
import GoSem.ClaimMapViews
import Derived.JoinedTies
import Derived.KernelRfl
namespace Go.Proofs.Qxb6628981a
/- THE CELL 'sum', in the pinned program and in every row, IS THE sha256 OF THE DUMP (.gsa) THAT Qxb6628981aProg.lean LOADS. Nothing in Lean hashes anything: it is a label: what it is worth is what the hold of that sum in a sandbox is worth. -/
noncomputable def Try.pinned : Pinned := { name := "qxb6628981a", sum := "0d3293c4524942eac0b509b5ebb602fd4d4b137c2b05891ae27c2687c84b7916", checked := Try.checked }
namespace Rows
def none {H : Type} : Left H := { results := [], args := [] }

/-- 'zzlaws_root_b1.FnTurnsRoundPicksEachByWeight': WHATEVER THE INPUT: true; the input reads as it did. -/
def fnTurnsRoundPicksEachByWeightSpec : ChangeSpec := { name := "fnTurnsRoundPicksEachByWeight", fn := fun _ => fun
  | [d] => { results := [.lit (.bool true)], args := [d] }
  | _ => none }
def fnTurnsRoundPicksEachByWeightRow : OpenClaim := { program := "qxb6628981a", sum := "0d3293c4524942eac0b509b5ebb602fd4d4b137c2b05891ae27c2687c84b7916", func := "example.com/spillway/spillway/zzlaws_root_b1.FnTurnsRoundPicksEachByWeight", spec := "fnTurnsRoundPicksEachByWeight", apart := false }
def FnTurnsRoundPicksEachByWeightSaid : Prop := fnTurnsRoundPicksEachByWeightRow.holds Try.pinned (OpenSpec.ofChange fnTurnsRoundPicksEachByWeightSpec)

/-- ITS FALSE NEIGHBOUR: 'it returns false'. Refute it at one input. -/
def fnTurnsRoundPicksEachByWeightWrong : ChangeSpec := { name := "fnTurnsRoundPicksEachByWeight", fn := fun _ => fun
  | [d] => { results := [.lit (.bool false)], args := [d] }
  | _ => none }
def FnTurnsRoundPicksEachByWeightWrongFalsely : Prop := fnTurnsRoundPicksEachByWeightRow.holds Try.pinned (OpenSpec.ofChange fnTurnsRoundPicksEachByWeightWrong)

/-- 'zzlaws_root_b1.FnTurnsSpreadAndRepeat': WHATEVER THE INPUT: true; the input reads as it did. -/
def fnTurnsSpreadAndRepeatSpec : ChangeSpec := { name := "fnTurnsSpreadAndRepeat", fn := fun _ => fun
  | [d] => { results := [.lit (.bool true)], args := [d] }
  | _ => none }
def fnTurnsSpreadAndRepeatRow : OpenClaim := { program := "qxb6628981a", sum := "0d3293c4524942eac0b509b5ebb602fd4d4b137c2b05891ae27c2687c84b7916", func := "example.com/spillway/spillway/zzlaws_root_b1.FnTurnsSpreadAndRepeat", spec := "fnTurnsSpreadAndRepeat", apart := false }
def FnTurnsSpreadAndRepeatSaid : Prop := fnTurnsSpreadAndRepeatRow.holds Try.pinned (OpenSpec.ofChange fnTurnsSpreadAndRepeatSpec)

/-- ITS FALSE NEIGHBOUR: 'it returns false'. Refute it at one input. -/
def fnTurnsSpreadAndRepeatWrong : ChangeSpec := { name := "fnTurnsSpreadAndRepeat", fn := fun _ => fun
  | [d] => { results := [.lit (.bool false)], args := [d] }
  | _ => none }
def FnTurnsSpreadAndRepeatWrongFalsely : Prop := fnTurnsSpreadAndRepeatRow.holds Try.pinned (OpenSpec.ofChange fnTurnsSpreadAndRepeatWrong)

end Rows
end Go.Proofs.Qxb6628981a
