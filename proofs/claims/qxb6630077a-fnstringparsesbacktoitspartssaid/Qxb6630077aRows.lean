/-
  No cell of these rows narrows 'for every input' (looked for: loops, veiled, ifaces, maps, wideKeys, modest, calm, conditions, laid).
  DERIVED. THE GIVEN ROWS OF THIS SEAT. 2 by the template 'for every input the law returns true; each argument reads behind the call as it read before'; 0 by the template 'total and deterministic' (their statements: Qxb6630077aTotals.lean).
  GIVEN WITH THE SEED: the statements are not yours to turn. If you find one false, say at which input.
  Laid BY PROGRAM, IN A SANDBOX (cutbox-rows.mjs): the forced cells as the released guide's own fill.sh prints them over the translation 4dc788c776d85bdc… (all of the seat's roots in one cut). By AI agents, Wed Nov 11 2026. No macro, syntax, notation, axiom, sorry.
-/
import Derived.Test.Qxb6630077aChecked
import GoSem.Claim
import GoSem.ClaimJoined
import GoSem.ClaimMapViews
import Derived.JoinedTies
import Derived.KernelRfl
namespace Go.Proofs.Qxb6630077a
/- THE CELL 'sum', in the pinned program and in every row, IS THE sha256 OF THE DUMP (.gsa) THAT Qxb6630077aProg.lean LOADS. Nothing in Lean hashes anything: it is a label: what it is worth is what the hold of that sum in a sandbox is worth. -/
noncomputable def Try.pinned : Pinned := { name := "qxb6630077a", sum := "4dc788c776d85bdcc769b4080412ceee9f1cc8fc424ddc684f14415c521ac544", checked := Try.checked }
namespace Rows
def none {H : Type} : Left H := { results := [], args := [] }

/-- 'zzlaws_xmppaddr_b1.FnStringIsHeadDomainTail': WHATEVER THE INPUT: true; the input reads as it did. -/
def fnStringIsHeadDomainTailSpec : ChangeSpec := { name := "fnStringIsHeadDomainTail", fn := fun _ => fun
  | [d1, d2, d3] => { results := [.lit (.bool true)], args := [d1, d2, d3] }
  | _ => none }
def fnStringIsHeadDomainTailRow : OpenClaim := { program := "qxb6630077a", sum := "4dc788c776d85bdcc769b4080412ceee9f1cc8fc424ddc684f14415c521ac544", func := "example.com/sealwire/sealwire/zzlaws_xmppaddr_b1.FnStringIsHeadDomainTail", spec := "fnStringIsHeadDomainTail", apart := false }
def FnStringIsHeadDomainTailSaid : Prop := fnStringIsHeadDomainTailRow.holds Try.pinned (OpenSpec.ofChange fnStringIsHeadDomainTailSpec)

/-- ITS FALSE NEIGHBOUR: 'it returns false'. Refute it at one input. -/
def fnStringIsHeadDomainTailWrong : ChangeSpec := { name := "fnStringIsHeadDomainTail", fn := fun _ => fun
  | [d1, d2, d3] => { results := [.lit (.bool false)], args := [d1, d2, d3] }
  | _ => none }
def FnStringIsHeadDomainTailWrongFalsely : Prop := fnStringIsHeadDomainTailRow.holds Try.pinned (OpenSpec.ofChange fnStringIsHeadDomainTailWrong)

/-- 'zzlaws_xmppaddr_b1.FnStringParsesBackToItsParts': WHATEVER THE INPUT: true; the input reads as it did. -/
def fnStringParsesBackToItsPartsSpec : ChangeSpec := { name := "fnStringParsesBackToItsParts", fn := fun _ => fun
  | [d1, d2, d3] => { results := [.lit (.bool true)], args := [d1, d2, d3] }
  | _ => none }
def fnStringParsesBackToItsPartsRow : OpenClaim := { program := "qxb6630077a", sum := "4dc788c776d85bdcc769b4080412ceee9f1cc8fc424ddc684f14415c521ac544", func := "example.com/sealwire/sealwire/zzlaws_xmppaddr_b1.FnStringParsesBackToItsParts", spec := "fnStringParsesBackToItsParts", apart := false }
def FnStringParsesBackToItsPartsSaid : Prop := fnStringParsesBackToItsPartsRow.holds Try.pinned (OpenSpec.ofChange fnStringParsesBackToItsPartsSpec)

/-- ITS FALSE NEIGHBOUR: 'it returns false'. Refute it at one input. -/
def fnStringParsesBackToItsPartsWrong : ChangeSpec := { name := "fnStringParsesBackToItsParts", fn := fun _ => fun
  | [d1, d2, d3] => { results := [.lit (.bool false)], args := [d1, d2, d3] }
  | _ => none }
def FnStringParsesBackToItsPartsWrongFalsely : Prop := fnStringParsesBackToItsPartsRow.holds Try.pinned (OpenSpec.ofChange fnStringParsesBackToItsPartsWrong)

end Rows
end Go.Proofs.Qxb6630077a
