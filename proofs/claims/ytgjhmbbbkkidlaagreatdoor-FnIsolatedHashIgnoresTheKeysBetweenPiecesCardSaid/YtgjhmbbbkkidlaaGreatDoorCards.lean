/-
  DERIVED. GIVEN WITH THE SEED: THE CARDS: each row of YtgjhmbbbkkidlaaGreatDoorRows.lean that lists a variable, with what it lists TIED to the program's text (the seventh form; the later family's looks); each row that meets fmt, with fmt's text TOLD by the authors' own Lean function (tested against real Go, not proved from fmt's source: count such statements apart). THE CARD IS WHAT COUNTS. Prove the row's statement (the work); the ties are given (YtgjhmbbbkkidlaaGreatDoorTie.lean); close each card by the builder's one call (the guide's Derived/Test/ToyasCard.lean, 'card_holds'). Laid BY PROGRAM, IN A SANDBOX (cutbox-door.mjs). By AI agents, Wed Nov 11 2026. No macro, syntax, notation, axiom, sorry.
-/
import Derived.Test.YtgjhmbbbkkidlaaGreatDoorRows
import GoSem.ClaimSeven
namespace Go.Proofs.YtgjhmbbbkkidlaaGreatDoor
namespace Rows

/-- THE TIED CARD OF 'n011_177.FnIsolatedHashIgnoresTheKeysBetweenPieces'. -/
def fnIsolatedHashIgnoresTheKeysBetweenPiecesCard : Claim7 := { stood := { row := fnIsolatedHashIgnoresTheKeysBetweenPiecesRow, standIns := [], harness := (true, "e6867007241597161f651892500538e30950189fa106f574a6fdee6ac7901bd6"), looks := true }, kinds := [], alts := [], goes := true, laidByText := true, laidKinds := [.data], laidTests := true, laidLooks := .later }
def FnIsolatedHashIgnoresTheKeysBetweenPiecesCardSaid : Prop := Claim7.holds Tryz.pinned (.plain (OpenSpec.ofChange fnIsolatedHashIgnoresTheKeysBetweenPiecesSpec)) fnIsolatedHashIgnoresTheKeysBetweenPiecesCard

/-- THE SECOND FORM's CARD OF 'n011_177.FnIsolatedHashIgnoresTheKeysBetweenPieces'. -/
def fnIsolatedHashIgnoresTheKeysBetweenPiecesUptoCard : Claim7 := { stood := { row := fnIsolatedHashIgnoresTheKeysBetweenPiecesUptoRow, standIns := [], harness := (true, "e6867007241597161f651892500538e30950189fa106f574a6fdee6ac7901bd6"), looks := true }, kinds := [], alts := [], goes := true, laidByText := true, laidKinds := [.data], laidTests := true, laidLooks := .later }
def FnIsolatedHashIgnoresTheKeysBetweenPiecesUptoCardSaid : Prop := Claim7.holds Tryz.pinned (.plain (OpenSpec.upto fnIsolatedHashIgnoresTheKeysBetweenPiecesSpec)) fnIsolatedHashIgnoresTheKeysBetweenPiecesUptoCard
end Rows
end Go.Proofs.YtgjhmbbbkkidlaaGreatDoor
