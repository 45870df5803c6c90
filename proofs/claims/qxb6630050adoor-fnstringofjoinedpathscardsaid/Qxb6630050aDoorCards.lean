/-
  DERIVED. GIVEN WITH THE SEED: THE CARDS: each row of Qxb6630050aDoorRows.lean that lists a variable, with what it lists TIED to the program's text (the seventh form; the later family's looks); each row that meets fmt, with fmt's text TOLD by the authors' own Lean function (tested against real Go, not proved from fmt's source: count such statements apart). THE CARD IS WHAT COUNTS. Prove the row's statement (the work); the ties are given (Qxb6630050aDoorTie.lean); close each card by the builder's one call (the guide's Derived/Test/ToyasCard.lean, 'card_holds'). Laid BY PROGRAM, IN A SANDBOX (cutbox-door.mjs). By AI agents, Wed Nov 11 2026. No macro, syntax, notation, axiom, sorry.
-/
import Derived.Test.Qxb6630050aDoorRows
import GoSem.ClaimSeven
namespace Go.Proofs.Qxb6630050aDoor
namespace Rows

/-- THE TIED CARD OF 'zzlaws_field_b1.FnStringOneStepFurther'. -/
def fnStringOneStepFurtherCard : Claim7 := { stood := { row := fnStringOneStepFurtherRow, standIns := [], harness := (true, "b2d586a2214fe6db5284112c0cf7d2d75db4b94da5131d005d09e719ae42c133"), looks := false }, kinds := [], alts := [], laidByText := true, laidKinds := [.data, .data, .data], laidTests := true, laidLooks := .later }
def FnStringOneStepFurtherCardSaid : Prop := Claim7.holds Tryd.pinned (.plain (OpenSpec.ofChange fnStringOneStepFurtherSpec)) fnStringOneStepFurtherCard

/-- THE TIED CARD OF 'zzlaws_field_b1.FnStringOfJoinedPaths'. -/
def fnStringOfJoinedPathsCard : Claim7 := { stood := { row := fnStringOfJoinedPathsRow, standIns := [], harness := (true, "b2d586a2214fe6db5284112c0cf7d2d75db4b94da5131d005d09e719ae42c133"), looks := false }, kinds := [], alts := [], laidByText := true, laidKinds := [.data, .data, .data], laidTests := true, laidLooks := .later }
def FnStringOfJoinedPathsCardSaid : Prop := Claim7.holds Tryd.pinned (.plain (OpenSpec.ofChange fnStringOfJoinedPathsSpec)) fnStringOfJoinedPathsCard
end Rows
end Go.Proofs.Qxb6630050aDoor
