/-
  DERIVED. GIVEN WITH THE SEED: THE CARDS: each row of YtijbmfmcpcpcaaaDoorRRows.lean that lists a variable, with what it lists TIED to the program's text (the seventh form; the later family's looks); each row that meets fmt, with fmt's text TOLD by the authors' own Lean function (tested against real Go, not proved from fmt's source: count such statements apart). THE CARD IS WHAT COUNTS. Prove the row's statement (the work); the ties are given (YtijbmfmcpcpcaaaDoorRTie.lean); close each card by the builder's one call (the guide's Derived/Test/ToyasCard.lean, 'card_holds'). Laid BY PROGRAM, IN A SANDBOX (cutbox-door.mjs). By AI agents, Wed Nov 11 2026. No macro, syntax, notation, axiom, sorry.
-/
import Derived.Test.YtijbmfmcpcpcaaaDoorRRows
import GoSem.ClaimSeven
namespace Go.Proofs.YtijbmfmcpcpcaaaDoorR
namespace Rows

/-- THE TIED CARD OF 'n011_69.FnIsUnboundIdentifierAgreesWithEvalTest'. -/
def fnIsUnboundIdentifierAgreesWithEvalTestCard : Claim7 := { stood := { row := fnIsUnboundIdentifierAgreesWithEvalTestRow, standIns := [], harness := (true, "b76f96e3bb113eb279043869e1410a4f214feeaeda1c153f6b27d1de77d2e92a"), looks := true }, kinds := [], alts := [], laidByText := true, laidKinds := [.data], laidTests := true, laidLooks := .later }
def FnIsUnboundIdentifierAgreesWithEvalTestCardSaid : Prop := Claim7.holds Tryd.pinned (.plain (OpenSpec.ofChange fnIsUnboundIdentifierAgreesWithEvalTestSpec)) fnIsUnboundIdentifierAgreesWithEvalTestCard

/-- THE TIED CARD OF 'n011_88.FnIsUnboundEvalIdentifierSpec'. -/
def fnIsUnboundEvalIdentifierSpecCard : Claim7 := { stood := { row := fnIsUnboundEvalIdentifierSpecRow, standIns := [], harness := (true, "b76f96e3bb113eb279043869e1410a4f214feeaeda1c153f6b27d1de77d2e92a"), looks := true }, kinds := [], alts := [], laidByText := true, laidKinds := [.data], laidTests := true, laidLooks := .later }
def FnIsUnboundEvalIdentifierSpecCardSaid : Prop := Claim7.holds Tryd.pinned (.plain (OpenSpec.ofChange fnIsUnboundEvalIdentifierSpecSpec)) fnIsUnboundEvalIdentifierSpecCard

/-- THE TIED CARD OF 'n011_301.FnMangledPropNameIsRootMangledElseOriginal'. -/
def fnMangledPropNameIsRootMangledElseOriginalCard : Claim7 := { stood := { row := fnMangledPropNameIsRootMangledElseOriginalRow, standIns := [], harness := (true, "b76f96e3bb113eb279043869e1410a4f214feeaeda1c153f6b27d1de77d2e92a"), looks := true }, kinds := [], alts := [], laidByText := true, laidKinds := [.data], laidTests := true, laidLooks := .later }
def FnMangledPropNameIsRootMangledElseOriginalCardSaid : Prop := Claim7.holds Tryd.pinned (.plain (OpenSpec.ofChange fnMangledPropNameIsRootMangledElseOriginalSpec)) fnMangledPropNameIsRootMangledElseOriginalCard

/-- THE TIED CARD OF 'n011_69.FnIsUnboundIdentifierFollowsLinksToRoot'. -/
def fnIsUnboundIdentifierFollowsLinksToRootCard : Claim7 := { stood := { row := fnIsUnboundIdentifierFollowsLinksToRootRow, standIns := [], harness := (true, "b76f96e3bb113eb279043869e1410a4f214feeaeda1c153f6b27d1de77d2e92a"), looks := true }, kinds := [], alts := [], laidByText := true, laidKinds := [.data], laidTests := true, laidLooks := .later }
def FnIsUnboundIdentifierFollowsLinksToRootCardSaid : Prop := Claim7.holds Tryd.pinned (.plain (OpenSpec.ofChange fnIsUnboundIdentifierFollowsLinksToRootSpec)) fnIsUnboundIdentifierFollowsLinksToRootCard

/-- THE TIED CARD OF 'n011_301.FnTryToGetImportedEnumValueSameThroughAliases'. -/
def fnTryToGetImportedEnumValueSameThroughAliasesCard : Claim7 := { stood := { row := fnTryToGetImportedEnumValueSameThroughAliasesRow, standIns := [], harness := (true, "b76f96e3bb113eb279043869e1410a4f214feeaeda1c153f6b27d1de77d2e92a"), looks := true }, kinds := [], alts := [], laidByText := true, laidKinds := [.data], laidTests := true, laidLooks := .later }
def FnTryToGetImportedEnumValueSameThroughAliasesCardSaid : Prop := Claim7.holds Tryd.pinned (.plain (OpenSpec.ofChange fnTryToGetImportedEnumValueSameThroughAliasesSpec)) fnTryToGetImportedEnumValueSameThroughAliasesCard

/-- THE SECOND FORM's CARD OF 'n011_69.FnIsUnboundIdentifierAgreesWithEvalTest'. -/
def fnIsUnboundIdentifierAgreesWithEvalTestUptoCard : Claim7 := { stood := { row := fnIsUnboundIdentifierAgreesWithEvalTestUptoRow, standIns := [], harness := (true, "b76f96e3bb113eb279043869e1410a4f214feeaeda1c153f6b27d1de77d2e92a"), looks := true }, kinds := [], alts := [], laidByText := true, laidKinds := [.data], laidTests := true, laidLooks := .later }
def FnIsUnboundIdentifierAgreesWithEvalTestUptoCardSaid : Prop := Claim7.holds Tryd.pinned (.plain (OpenSpec.upto fnIsUnboundIdentifierAgreesWithEvalTestSpec)) fnIsUnboundIdentifierAgreesWithEvalTestUptoCard

/-- THE SECOND FORM's CARD OF 'n011_88.FnIsUnboundEvalIdentifierSpec'. -/
def fnIsUnboundEvalIdentifierSpecUptoCard : Claim7 := { stood := { row := fnIsUnboundEvalIdentifierSpecUptoRow, standIns := [], harness := (true, "b76f96e3bb113eb279043869e1410a4f214feeaeda1c153f6b27d1de77d2e92a"), looks := true }, kinds := [], alts := [], laidByText := true, laidKinds := [.data], laidTests := true, laidLooks := .later }
def FnIsUnboundEvalIdentifierSpecUptoCardSaid : Prop := Claim7.holds Tryd.pinned (.plain (OpenSpec.upto fnIsUnboundEvalIdentifierSpecSpec)) fnIsUnboundEvalIdentifierSpecUptoCard

/-- THE SECOND FORM's CARD OF 'n011_301.FnMangledPropNameIsRootMangledElseOriginal'. -/
def fnMangledPropNameIsRootMangledElseOriginalUptoCard : Claim7 := { stood := { row := fnMangledPropNameIsRootMangledElseOriginalUptoRow, standIns := [], harness := (true, "b76f96e3bb113eb279043869e1410a4f214feeaeda1c153f6b27d1de77d2e92a"), looks := true }, kinds := [], alts := [], laidByText := true, laidKinds := [.data], laidTests := true, laidLooks := .later }
def FnMangledPropNameIsRootMangledElseOriginalUptoCardSaid : Prop := Claim7.holds Tryd.pinned (.plain (OpenSpec.upto fnMangledPropNameIsRootMangledElseOriginalSpec)) fnMangledPropNameIsRootMangledElseOriginalUptoCard

/-- THE SECOND FORM's CARD OF 'n011_69.FnIsUnboundIdentifierFollowsLinksToRoot'. -/
def fnIsUnboundIdentifierFollowsLinksToRootUptoCard : Claim7 := { stood := { row := fnIsUnboundIdentifierFollowsLinksToRootUptoRow, standIns := [], harness := (true, "b76f96e3bb113eb279043869e1410a4f214feeaeda1c153f6b27d1de77d2e92a"), looks := true }, kinds := [], alts := [], laidByText := true, laidKinds := [.data], laidTests := true, laidLooks := .later }
def FnIsUnboundIdentifierFollowsLinksToRootUptoCardSaid : Prop := Claim7.holds Tryd.pinned (.plain (OpenSpec.upto fnIsUnboundIdentifierFollowsLinksToRootSpec)) fnIsUnboundIdentifierFollowsLinksToRootUptoCard

/-- THE SECOND FORM's CARD OF 'n011_301.FnTryToGetImportedEnumValueSameThroughAliases'. -/
def fnTryToGetImportedEnumValueSameThroughAliasesUptoCard : Claim7 := { stood := { row := fnTryToGetImportedEnumValueSameThroughAliasesUptoRow, standIns := [], harness := (true, "b76f96e3bb113eb279043869e1410a4f214feeaeda1c153f6b27d1de77d2e92a"), looks := true }, kinds := [], alts := [], laidByText := true, laidKinds := [.data], laidTests := true, laidLooks := .later }
def FnTryToGetImportedEnumValueSameThroughAliasesUptoCardSaid : Prop := Claim7.holds Tryd.pinned (.plain (OpenSpec.upto fnTryToGetImportedEnumValueSameThroughAliasesSpec)) fnTryToGetImportedEnumValueSameThroughAliasesUptoCard
end Rows
end Go.Proofs.YtijbmfmcpcpcaaaDoorR
