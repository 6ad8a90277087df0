/-
  DERIVED. GIVEN WITH THE SEED: THE CARDS: each row of YtolphikbppmobaaDoorRows.lean that lists a variable, with what it lists TIED to the program's text (the seventh form; the later family's looks); each row that meets fmt, with fmt's text TOLD by the authors' own Lean function (tested against real Go, not proved from fmt's source: count such statements apart). THE CARD IS WHAT COUNTS. Prove the row's statement (the work); the ties are given (YtolphikbppmobaaDoorTie.lean); close each card by the builder's one call (the guide's Derived/Test/ToyasCard.lean, 'card_holds'). Laid BY PROGRAM, IN A SANDBOX (cutbox-door.mjs). By AI agents, Wed Nov 11 2026. No macro, syntax, notation, axiom, sorry.
-/
import Derived.Test.YtolphikbppmobaaDoorRows
import GoSem.ClaimSeven
namespace Go.Proofs.YtolphikbppmobaaDoor
namespace Rows

/-- THE TIED CARD OF 'n011_135.FnMoveBeforeExportMatchesForwardSearch'. -/
def fnMoveBeforeExportMatchesForwardSearchCard : Claim7 := { stood := { row := fnMoveBeforeExportMatchesForwardSearchRow, standIns := [], harness := (true, "96bd648c2e3c3709aee9bbfa5f5c85eef3b0d553b52fcbcccd3b50f2762833c6"), looks := false }, kinds := [], alts := [], laidByText := true, laidKinds := [.data, .pinned], laidTests := true, laidLooks := .later }
def FnMoveBeforeExportMatchesForwardSearchCardSaid : Prop := Claim7.holds Tryd.pinned (.plain (OpenSpec.ofChange fnMoveBeforeExportMatchesForwardSearchSpec)) fnMoveBeforeExportMatchesForwardSearchCard

/-- THE SECOND FORM's CARD OF 'n011_135.FnMoveBeforeExportMatchesForwardSearch'. -/
def fnMoveBeforeExportMatchesForwardSearchUptoCard : Claim7 := { stood := { row := fnMoveBeforeExportMatchesForwardSearchUptoRow, standIns := [], harness := (true, "96bd648c2e3c3709aee9bbfa5f5c85eef3b0d553b52fcbcccd3b50f2762833c6"), looks := false }, kinds := [], alts := [], laidByText := true, laidKinds := [.data, .pinned], laidTests := true, laidLooks := .later }
def FnMoveBeforeExportMatchesForwardSearchUptoCardSaid : Prop := Claim7.holds Tryd.pinned (.plain (OpenSpec.upto fnMoveBeforeExportMatchesForwardSearchSpec)) fnMoveBeforeExportMatchesForwardSearchUptoCard
end Rows
end Go.Proofs.YtolphikbppmobaaDoor
