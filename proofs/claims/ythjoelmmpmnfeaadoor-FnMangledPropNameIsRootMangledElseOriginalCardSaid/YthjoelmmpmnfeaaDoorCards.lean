/-
  DERIVED. GIVEN WITH THE SEED: THE CARDS: each row of YthjoelmmpmnfeaaDoorRows.lean that lists a variable, with what it lists TIED to the program's text (the seventh form; the later family's looks); each row that meets fmt, with fmt's text TOLD by the authors' own Lean function (tested against real Go, not proved from fmt's source: count such statements apart). THE CARD IS WHAT COUNTS. Prove the row's statement (the work); the ties are given (YthjoelmmpmnfeaaDoorTie.lean); close each card by the builder's one call (the guide's Derived/Test/ToyasCard.lean, 'card_holds'). Laid BY PROGRAM, IN A SANDBOX (cutbox-door.mjs). By AI agents, Wed Nov 11 2026. No macro, syntax, notation, axiom, sorry.
-/
import Derived.Test.YthjoelmmpmnfeaaDoorRows
import GoSem.ClaimSeven
namespace Go.Proofs.YthjoelmmpmnfeaaDoor
namespace Rows

/-- THE TIED CARD OF 'n011_301.FnMangledPropNameIsRootMangledElseOriginal'. -/
def fnMangledPropNameIsRootMangledElseOriginalCard : Claim7 := { stood := { row := fnMangledPropNameIsRootMangledElseOriginalRow, standIns := [], harness := (true, "386c81f84c6a9dc67fca9c1461add3eec4273da4aafc49f62234c1ce9ca0d77d"), looks := false }, kinds := [], alts := [], laidByText := true, laidKinds := [.data], laidTests := true, laidLooks := .later }
def FnMangledPropNameIsRootMangledElseOriginalCardSaid : Prop := Claim7.holds Tryd.pinned (.plain (OpenSpec.ofChange fnMangledPropNameIsRootMangledElseOriginalSpec)) fnMangledPropNameIsRootMangledElseOriginalCard

/-- THE SECOND FORM's CARD OF 'n011_301.FnMangledPropNameIsRootMangledElseOriginal'. -/
def fnMangledPropNameIsRootMangledElseOriginalUptoCard : Claim7 := { stood := { row := fnMangledPropNameIsRootMangledElseOriginalUptoRow, standIns := [], harness := (true, "386c81f84c6a9dc67fca9c1461add3eec4273da4aafc49f62234c1ce9ca0d77d"), looks := false }, kinds := [], alts := [], laidByText := true, laidKinds := [.data], laidTests := true, laidLooks := .later }
def FnMangledPropNameIsRootMangledElseOriginalUptoCardSaid : Prop := Claim7.holds Tryd.pinned (.plain (OpenSpec.upto fnMangledPropNameIsRootMangledElseOriginalSpec)) fnMangledPropNameIsRootMangledElseOriginalUptoCard
end Rows
end Go.Proofs.YthjoelmmpmnfeaaDoor
