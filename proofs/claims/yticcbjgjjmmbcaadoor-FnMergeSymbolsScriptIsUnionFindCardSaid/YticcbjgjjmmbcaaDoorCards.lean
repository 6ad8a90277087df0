/-
  DERIVED. GIVEN WITH THE SEED: THE CARDS: each row of YticcbjgjjmmbcaaDoorRows.lean that lists a variable, with what it lists TIED to the program's text (the seventh form; the later family's looks); each row that meets fmt, with fmt's text TOLD by the authors' own Lean function (tested against real Go, not proved from fmt's source: count such statements apart). THE CARD IS WHAT COUNTS. Prove the row's statement (the work); the ties are given (YticcbjgjjmmbcaaDoorTie.lean); close each card by the builder's one call (the guide's Derived/Test/ToyasCard.lean, 'card_holds'). Laid BY PROGRAM, IN A SANDBOX (cutbox-door.mjs). By AI agents, Wed Nov 11 2026. No macro, syntax, notation, axiom, sorry.
-/
import Derived.Test.YticcbjgjjmmbcaaDoorRows
import GoSem.ClaimSeven
namespace Go.Proofs.YticcbjgjjmmbcaaDoor
namespace Rows

/-- THE TIED CARD OF 'n011_236.FnMergeSymbolsScriptIsUnionFind'. -/
def fnMergeSymbolsScriptIsUnionFindCard : Claim7 := { stood := { row := fnMergeSymbolsScriptIsUnionFindRow, standIns := [], harness := (true, "beddea310fc66684d1a22f2bed156cda209bc3e0b84107b5b02ce04a1d2e3b37"), looks := false }, kinds := [], alts := [], laidByText := true, laidKinds := [.data], laidTests := true, laidLooks := .later }
def FnMergeSymbolsScriptIsUnionFindCardSaid : Prop := Claim7.holds Tryd.pinned (.plain (OpenSpec.ofChange fnMergeSymbolsScriptIsUnionFindSpec)) fnMergeSymbolsScriptIsUnionFindCard

/-- THE TIED CARD OF 'n011_236.FnFollowAllSymbolsFlattens'. -/
def fnFollowAllSymbolsFlattensCard : Claim7 := { stood := { row := fnFollowAllSymbolsFlattensRow, standIns := [], harness := (true, "beddea310fc66684d1a22f2bed156cda209bc3e0b84107b5b02ce04a1d2e3b37"), looks := false }, kinds := [], alts := [], laidByText := true, laidKinds := [.data], laidTests := true, laidLooks := .later }
def FnFollowAllSymbolsFlattensCardSaid : Prop := Claim7.holds Tryd.pinned (.plain (OpenSpec.ofChange fnFollowAllSymbolsFlattensSpec)) fnFollowAllSymbolsFlattensCard

/-- THE TIED CARD OF 'n011_236.FnFollowSymbolsCompressesOnlyItsPath'. -/
def fnFollowSymbolsCompressesOnlyItsPathCard : Claim7 := { stood := { row := fnFollowSymbolsCompressesOnlyItsPathRow, standIns := [], harness := (true, "beddea310fc66684d1a22f2bed156cda209bc3e0b84107b5b02ce04a1d2e3b37"), looks := false }, kinds := [], alts := [], laidByText := true, laidKinds := [.data], laidTests := true, laidLooks := .later }
def FnFollowSymbolsCompressesOnlyItsPathCardSaid : Prop := Claim7.holds Tryd.pinned (.plain (OpenSpec.ofChange fnFollowSymbolsCompressesOnlyItsPathSpec)) fnFollowSymbolsCompressesOnlyItsPathCard

/-- THE SECOND FORM's CARD OF 'n011_236.FnMergeSymbolsScriptIsUnionFind'. -/
def fnMergeSymbolsScriptIsUnionFindUptoCard : Claim7 := { stood := { row := fnMergeSymbolsScriptIsUnionFindUptoRow, standIns := [], harness := (true, "beddea310fc66684d1a22f2bed156cda209bc3e0b84107b5b02ce04a1d2e3b37"), looks := false }, kinds := [], alts := [], laidByText := true, laidKinds := [.data], laidTests := true, laidLooks := .later }
def FnMergeSymbolsScriptIsUnionFindUptoCardSaid : Prop := Claim7.holds Tryd.pinned (.plain (OpenSpec.upto fnMergeSymbolsScriptIsUnionFindSpec)) fnMergeSymbolsScriptIsUnionFindUptoCard

/-- THE SECOND FORM's CARD OF 'n011_236.FnFollowAllSymbolsFlattens'. -/
def fnFollowAllSymbolsFlattensUptoCard : Claim7 := { stood := { row := fnFollowAllSymbolsFlattensUptoRow, standIns := [], harness := (true, "beddea310fc66684d1a22f2bed156cda209bc3e0b84107b5b02ce04a1d2e3b37"), looks := false }, kinds := [], alts := [], laidByText := true, laidKinds := [.data], laidTests := true, laidLooks := .later }
def FnFollowAllSymbolsFlattensUptoCardSaid : Prop := Claim7.holds Tryd.pinned (.plain (OpenSpec.upto fnFollowAllSymbolsFlattensSpec)) fnFollowAllSymbolsFlattensUptoCard

/-- THE SECOND FORM's CARD OF 'n011_236.FnFollowSymbolsCompressesOnlyItsPath'. -/
def fnFollowSymbolsCompressesOnlyItsPathUptoCard : Claim7 := { stood := { row := fnFollowSymbolsCompressesOnlyItsPathUptoRow, standIns := [], harness := (true, "beddea310fc66684d1a22f2bed156cda209bc3e0b84107b5b02ce04a1d2e3b37"), looks := false }, kinds := [], alts := [], laidByText := true, laidKinds := [.data], laidTests := true, laidLooks := .later }
def FnFollowSymbolsCompressesOnlyItsPathUptoCardSaid : Prop := Claim7.holds Tryd.pinned (.plain (OpenSpec.upto fnFollowSymbolsCompressesOnlyItsPathSpec)) fnFollowSymbolsCompressesOnlyItsPathUptoCard
end Rows
end Go.Proofs.YticcbjgjjmmbcaaDoor
