/-
  DERIVED. GIVEN WITH THE SEED: THE CARDS: each row of YtilhckihpgfkfaaDoorRows.lean that lists a variable, with what it lists TIED to the program's text (the seventh form; the later family's looks); each row that meets fmt, with fmt's text TOLD by the authors' own Lean function (tested against real Go, not proved from fmt's source: count such statements apart). THE CARD IS WHAT COUNTS. Prove the row's statement (the work); the ties are given (YtilhckihpgfkfaaDoorTie.lean); close each card by the builder's one call (the guide's Derived/Test/ToyasCard.lean, 'card_holds'). Laid BY PROGRAM, IN A SANDBOX (cutbox-door.mjs). By AI agents, Wed Nov 11 2026. No macro, syntax, notation, axiom, sorry.
-/
import Derived.Test.YtilhckihpgfkfaaDoorRows
import GoSem.ClaimSeven
namespace Go.Proofs.YtilhckihpgfkfaaDoor
namespace Rows

/-- THE TIED CARD OF 'n011_171.FnShouldRemoveImportExportStmtOnlyAppends'. -/
def fnShouldRemoveImportExportStmtOnlyAppendsCard : Claim7 := { stood := { row := fnShouldRemoveImportExportStmtOnlyAppendsRow, standIns := [], harness := (true, "a231db238b2b36a8240ddeb546b7430cb2a4123406763e5d5874f362c8e069c2"), looks := true }, kinds := [], alts := [], laidByText := true, laidKinds := [.data], laidTests := true, laidLooks := .later }
def FnShouldRemoveImportExportStmtOnlyAppendsCardSaid : Prop := Claim7.holds Tryd.pinned (.plain (OpenSpec.ofChange fnShouldRemoveImportExportStmtOnlyAppendsSpec)) fnShouldRemoveImportExportStmtOnlyAppendsCard

/-- THE SECOND FORM's CARD OF 'n011_171.FnShouldRemoveImportExportStmtOnlyAppends'. -/
def fnShouldRemoveImportExportStmtOnlyAppendsUptoCard : Claim7 := { stood := { row := fnShouldRemoveImportExportStmtOnlyAppendsUptoRow, standIns := [], harness := (true, "a231db238b2b36a8240ddeb546b7430cb2a4123406763e5d5874f362c8e069c2"), looks := true }, kinds := [], alts := [], laidByText := true, laidKinds := [.data], laidTests := true, laidLooks := .later }
def FnShouldRemoveImportExportStmtOnlyAppendsUptoCardSaid : Prop := Claim7.holds Tryd.pinned (.plain (OpenSpec.upto fnShouldRemoveImportExportStmtOnlyAppendsSpec)) fnShouldRemoveImportExportStmtOnlyAppendsUptoCard
end Rows
end Go.Proofs.YtilhckihpgfkfaaDoor
