/-
  DERIVED. GIVEN WITH THE SEED: THE CARDS: each row of YteoeiklojidgnaaFmtRows.lean that lists a variable, with what it lists TIED to the program's text (the seventh form; the later family's looks); each row that meets fmt, with fmt's text TOLD by the authors' own Lean function (tested against real Go, not proved from fmt's source: count such statements apart). THE CARD IS WHAT COUNTS. Prove the row's statement (the work); the ties are given (YteoeiklojidgnaaFmtTie.lean); close each card by the builder's one call (the guide's Derived/Test/ToyasCard.lean, 'card_holds'). Laid BY PROGRAM, IN A SANDBOX (cutbox-door.mjs). By AI agents, Wed Nov 11 2026. No macro, syntax, notation, axiom, sorry.
-/
import Derived.Test.YteoeiklojidgnaaFmtRows
import GoSem.ClaimSeven
namespace Go.Proofs.YteoeiklojidgnaaFmt
namespace Rows

/-- THE TOLD CARD OF 'n011_297.FnUnquotedUTF16UnescapesBack'. -/
def fnUnquotedUTF16UnescapesBackCard : Claim7 := { stood := { row := fnUnquotedUTF16UnescapesBackRow, standIns := [], harness := (true, "50ddba9dd36295ff8a8b29c83634b074a4edbb62d62b21b747c290537154026e"), looks := false }, told := true, goes := false }
def FnUnquotedUTF16UnescapesBackToldSaid : Prop := Claim7.holds Tryf.pinned (.plain (OpenSpec.ofChange fnUnquotedUTF16UnescapesBackSpec)) fnUnquotedUTF16UnescapesBackCard
/-- ITS FALSE NEIGHBOUR. Refute it at one input. -/
def FnUnquotedUTF16UnescapesBackToldWrongFalsely : Prop := Claim7.holds Tryf.pinned (.plain (OpenSpec.ofChange fnUnquotedUTF16UnescapesBackWrong)) fnUnquotedUTF16UnescapesBackCard
end Rows
end Go.Proofs.YteoeiklojidgnaaFmt
