/-
  DERIVED. GIVEN WITH THE SEED: THE CARDS: each row of YtcndjkndmmcagaaDoorRows.lean that lists a variable, with what it lists TIED to the program's text (the seventh form; the later family's looks); each row that meets fmt, with fmt's text TOLD by the authors' own Lean function (tested against real Go, not proved from fmt's source: count such statements apart). THE CARD IS WHAT COUNTS. Prove the row's statement (the work); the ties are given (YtcndjkndmmcagaaDoorTie.lean); close each card by the builder's one call (the guide's Derived/Test/ToyasCard.lean, 'card_holds'). Laid BY PROGRAM, IN A SANDBOX (cutbox-door.mjs). By AI agents, Wed Nov 11 2026. No macro, syntax, notation, axiom, sorry.
-/
import Derived.Test.YtcndjkndmmcagaaDoorRows
import GoSem.ClaimSeven
namespace Go.Proofs.YtcndjkndmmcagaaDoor
namespace Rows

/-- THE TIED CARD OF 'n011_301.FnTryToGetImportedEnumValueSameThroughAliases'. -/
def fnTryToGetImportedEnumValueSameThroughAliasesCard : Claim7 := { stood := { row := fnTryToGetImportedEnumValueSameThroughAliasesRow, standIns := [], harness := (true, "4d2befa7690a0d00440c3cd538d2048c534e846adbc0e695ce9778d1df5acaa9"), looks := true }, kinds := [], alts := [], laidByText := true, laidKinds := [.data], laidTests := true, laidLooks := .later }
def FnTryToGetImportedEnumValueSameThroughAliasesCardSaid : Prop := Claim7.holds Tryd.pinned (.plain (OpenSpec.ofChange fnTryToGetImportedEnumValueSameThroughAliasesSpec)) fnTryToGetImportedEnumValueSameThroughAliasesCard

/-- THE SECOND FORM's CARD OF 'n011_301.FnTryToGetImportedEnumValueSameThroughAliases'. -/
def fnTryToGetImportedEnumValueSameThroughAliasesUptoCard : Claim7 := { stood := { row := fnTryToGetImportedEnumValueSameThroughAliasesUptoRow, standIns := [], harness := (true, "4d2befa7690a0d00440c3cd538d2048c534e846adbc0e695ce9778d1df5acaa9"), looks := true }, kinds := [], alts := [], laidByText := true, laidKinds := [.data], laidTests := true, laidLooks := .later }
def FnTryToGetImportedEnumValueSameThroughAliasesUptoCardSaid : Prop := Claim7.holds Tryd.pinned (.plain (OpenSpec.upto fnTryToGetImportedEnumValueSameThroughAliasesSpec)) fnTryToGetImportedEnumValueSameThroughAliasesUptoCard
end Rows
end Go.Proofs.YtcndjkndmmcagaaDoor
