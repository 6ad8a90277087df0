/-
  NARROWER THAN 'FOR EVERY INPUT', by the rows' own cells (each row's printed sentence says how): FnIsUnboundIdentifierAgreesWithEvalTest: laid · FnIsUnboundEvalIdentifierSpec: laid · FnMangledPropNameIsRootMangledElseOriginal: laid · FnIsUnboundIdentifierFollowsLinksToRoot: laid · FnTryToGetImportedEnumValueSameThroughAliases: laid.
  DERIVED. THE GIVEN ROWS OF THIS SEAT. 5 by the template 'for every input the law returns true; each argument reads behind the call as it read before'; 0 by the template 'total and deterministic' (their statements: YtijbmfmcpcpcaaaDoorRTotals.lean).
  GIVEN WITH THE SEED: the statements are not yours to turn. If you find one false, say at which input.
  Laid BY PROGRAM, IN A SANDBOX (cutbox-rows.mjs): the forced cells as the released guide's own fill.sh prints them over the translation 574ca7f02b2856ab… (all of the seat's roots in one cut). By AI agents, Wed Nov 11 2026. No macro, syntax, notation, axiom, sorry.
-/
import Derived.Test.YtijbmfmcpcpcaaaDoorRChecked
import GoSem.Claim
import GoSem.ClaimJoined
import GoSem.ClaimMapViews
import Derived.JoinedTies
import Derived.KernelRfl
namespace Go.Proofs.YtijbmfmcpcpcaaaDoorR
/- THE CELL 'sum', in the pinned program and in every row, IS THE sha256 OF THE DUMP (.gsa) THAT YtijbmfmcpcpcaaaDoorRProg.lean LOADS. Nothing in Lean hashes anything: it is a label: what it is worth is what the hold of that sum in a sandbox is worth. -/
noncomputable def Tryd.pinned : Pinned := { name := "ytijbmfmcpcpcaaadoorr", sum := "574ca7f02b2856ab831c7cb5d1a14d51655740d3a82a7c2a27f180dd02443ba3", checked := Tryd.checked }
namespace Rows
def none {H : Type} : Left H := { results := [], args := [] }

/- WHAT THE LISTED PACKAGE-LEVEL VARIABLES READ AS WHEN THE CALL BEGINS. Each datum BY PROGRAM (the guide's laid-datum.mjs) off the statement by which the dump's own 'gosem.cut.vars' lays the variable. In a bare row this is a premise. The card (YtijbmfmcpcpcaaaDoorRCards.lean) ties it to the program's text. -/
def laid_github_com_evanw_esbuild_internal_ast_InvalidRef {H : Type} : DataW H := .agg [.lit (.int .u32 4294967295), .lit (.int .u32 4294967295)]

/-- 'n011_69.FnIsUnboundIdentifierAgreesWithEvalTest': WHATEVER THE INPUT: true; the input reads as it did. -/
def fnIsUnboundIdentifierAgreesWithEvalTestSpec : ChangeSpec := { name := "fnIsUnboundIdentifierAgreesWithEvalTest", vars := ["github.com/evanw/esbuild/internal/ast.InvalidRef"], fn := fun _ => fun
  | [d1, d2, d3, d4, g1] => { results := [.lit (.bool true)], args := [d1, d2, d3, d4], vars := [g1] }
  | _ => none }
def fnIsUnboundIdentifierAgreesWithEvalTestRow : OpenClaim := { program := "ytijbmfmcpcpcaaadoorr", sum := "574ca7f02b2856ab831c7cb5d1a14d51655740d3a82a7c2a27f180dd02443ba3", func := "github.com/evanw/esbuild/n011_69.FnIsUnboundIdentifierAgreesWithEvalTest", spec := "fnIsUnboundIdentifierAgreesWithEvalTest", recurses := true, named := ["github.com/evanw/esbuild/internal/ast.InvalidRef"], plainKeys := false, apart := false, laid := [("github.com/evanw/esbuild/internal/ast.InvalidRef", laid_github_com_evanw_esbuild_internal_ast_InvalidRef)] }
def FnIsUnboundIdentifierAgreesWithEvalTestSaid : Prop := fnIsUnboundIdentifierAgreesWithEvalTestRow.holds Tryd.pinned (OpenSpec.ofChange fnIsUnboundIdentifierAgreesWithEvalTestSpec)

/-- ITS FALSE NEIGHBOUR: 'it returns false'. Refute it at one input. -/
def fnIsUnboundIdentifierAgreesWithEvalTestWrong : ChangeSpec := { name := "fnIsUnboundIdentifierAgreesWithEvalTest", vars := ["github.com/evanw/esbuild/internal/ast.InvalidRef"], fn := fun _ => fun
  | [d1, d2, d3, d4, g1] => { results := [.lit (.bool false)], args := [d1, d2, d3, d4], vars := [g1] }
  | _ => none }
def FnIsUnboundIdentifierAgreesWithEvalTestWrongFalsely : Prop := fnIsUnboundIdentifierAgreesWithEvalTestRow.holds Tryd.pinned (OpenSpec.ofChange fnIsUnboundIdentifierAgreesWithEvalTestWrong)

/-- 'n011_88.FnIsUnboundEvalIdentifierSpec': WHATEVER THE INPUT: true; the input reads as it did. -/
def fnIsUnboundEvalIdentifierSpecSpec : ChangeSpec := { name := "fnIsUnboundEvalIdentifierSpec", vars := ["github.com/evanw/esbuild/internal/ast.InvalidRef"], fn := fun _ => fun
  | [d1, d2, d3, d4, d5, g1] => { results := [.lit (.bool true)], args := [d1, d2, d3, d4, d5], vars := [g1] }
  | _ => none }
def fnIsUnboundEvalIdentifierSpecRow : OpenClaim := { program := "ytijbmfmcpcpcaaadoorr", sum := "574ca7f02b2856ab831c7cb5d1a14d51655740d3a82a7c2a27f180dd02443ba3", func := "github.com/evanw/esbuild/n011_88.FnIsUnboundEvalIdentifierSpec", spec := "fnIsUnboundEvalIdentifierSpec", recurses := true, named := ["github.com/evanw/esbuild/internal/ast.InvalidRef"], plainKeys := false, apart := false, laid := [("github.com/evanw/esbuild/internal/ast.InvalidRef", laid_github_com_evanw_esbuild_internal_ast_InvalidRef)] }
def FnIsUnboundEvalIdentifierSpecSaid : Prop := fnIsUnboundEvalIdentifierSpecRow.holds Tryd.pinned (OpenSpec.ofChange fnIsUnboundEvalIdentifierSpecSpec)

/-- ITS FALSE NEIGHBOUR: 'it returns false'. Refute it at one input. -/
def fnIsUnboundEvalIdentifierSpecWrong : ChangeSpec := { name := "fnIsUnboundEvalIdentifierSpec", vars := ["github.com/evanw/esbuild/internal/ast.InvalidRef"], fn := fun _ => fun
  | [d1, d2, d3, d4, d5, g1] => { results := [.lit (.bool false)], args := [d1, d2, d3, d4, d5], vars := [g1] }
  | _ => none }
def FnIsUnboundEvalIdentifierSpecWrongFalsely : Prop := fnIsUnboundEvalIdentifierSpecRow.holds Tryd.pinned (OpenSpec.ofChange fnIsUnboundEvalIdentifierSpecWrong)

/-- 'n011_301.FnMangledPropNameIsRootMangledElseOriginal': WHATEVER THE INPUT: true; the input reads as it did. -/
def fnMangledPropNameIsRootMangledElseOriginalSpec : ChangeSpec := { name := "fnMangledPropNameIsRootMangledElseOriginal", vars := ["github.com/evanw/esbuild/internal/ast.InvalidRef"], fn := fun _ => fun
  | [d1, d2, d3, d4, d5, g1] => { results := [.lit (.bool true)], args := [d1, d2, d3, d4, d5], vars := [g1] }
  | _ => none }
def fnMangledPropNameIsRootMangledElseOriginalRow : OpenClaim := { program := "ytijbmfmcpcpcaaadoorr", sum := "574ca7f02b2856ab831c7cb5d1a14d51655740d3a82a7c2a27f180dd02443ba3", func := "github.com/evanw/esbuild/n011_301.FnMangledPropNameIsRootMangledElseOriginal", spec := "fnMangledPropNameIsRootMangledElseOriginal", unfollowed := true, recurses := true, named := ["github.com/evanw/esbuild/internal/ast.InvalidRef"], plainKeys := false, apart := false, laid := [("github.com/evanw/esbuild/internal/ast.InvalidRef", laid_github_com_evanw_esbuild_internal_ast_InvalidRef)] }
def FnMangledPropNameIsRootMangledElseOriginalSaid : Prop := fnMangledPropNameIsRootMangledElseOriginalRow.holds Tryd.pinned (OpenSpec.ofChange fnMangledPropNameIsRootMangledElseOriginalSpec)

/-- ITS FALSE NEIGHBOUR: 'it returns false'. Refute it at one input. -/
def fnMangledPropNameIsRootMangledElseOriginalWrong : ChangeSpec := { name := "fnMangledPropNameIsRootMangledElseOriginal", vars := ["github.com/evanw/esbuild/internal/ast.InvalidRef"], fn := fun _ => fun
  | [d1, d2, d3, d4, d5, g1] => { results := [.lit (.bool false)], args := [d1, d2, d3, d4, d5], vars := [g1] }
  | _ => none }
def FnMangledPropNameIsRootMangledElseOriginalWrongFalsely : Prop := fnMangledPropNameIsRootMangledElseOriginalRow.holds Tryd.pinned (OpenSpec.ofChange fnMangledPropNameIsRootMangledElseOriginalWrong)

/-- 'n011_69.FnIsUnboundIdentifierFollowsLinksToRoot': WHATEVER THE INPUT: true; the input reads as it did. -/
def fnIsUnboundIdentifierFollowsLinksToRootSpec : ChangeSpec := { name := "fnIsUnboundIdentifierFollowsLinksToRoot", vars := ["github.com/evanw/esbuild/internal/ast.InvalidRef"], fn := fun _ => fun
  | [d1, d2, d3, d4, g1] => { results := [.lit (.bool true)], args := [d1, d2, d3, d4], vars := [g1] }
  | _ => none }
def fnIsUnboundIdentifierFollowsLinksToRootRow : OpenClaim := { program := "ytijbmfmcpcpcaaadoorr", sum := "574ca7f02b2856ab831c7cb5d1a14d51655740d3a82a7c2a27f180dd02443ba3", func := "github.com/evanw/esbuild/n011_69.FnIsUnboundIdentifierFollowsLinksToRoot", spec := "fnIsUnboundIdentifierFollowsLinksToRoot", recurses := true, named := ["github.com/evanw/esbuild/internal/ast.InvalidRef"], plainKeys := false, apart := false, laid := [("github.com/evanw/esbuild/internal/ast.InvalidRef", laid_github_com_evanw_esbuild_internal_ast_InvalidRef)] }
def FnIsUnboundIdentifierFollowsLinksToRootSaid : Prop := fnIsUnboundIdentifierFollowsLinksToRootRow.holds Tryd.pinned (OpenSpec.ofChange fnIsUnboundIdentifierFollowsLinksToRootSpec)

/-- ITS FALSE NEIGHBOUR: 'it returns false'. Refute it at one input. -/
def fnIsUnboundIdentifierFollowsLinksToRootWrong : ChangeSpec := { name := "fnIsUnboundIdentifierFollowsLinksToRoot", vars := ["github.com/evanw/esbuild/internal/ast.InvalidRef"], fn := fun _ => fun
  | [d1, d2, d3, d4, g1] => { results := [.lit (.bool false)], args := [d1, d2, d3, d4], vars := [g1] }
  | _ => none }
def FnIsUnboundIdentifierFollowsLinksToRootWrongFalsely : Prop := fnIsUnboundIdentifierFollowsLinksToRootRow.holds Tryd.pinned (OpenSpec.ofChange fnIsUnboundIdentifierFollowsLinksToRootWrong)

/-- 'n011_301.FnTryToGetImportedEnumValueSameThroughAliases': WHATEVER THE INPUT: true; the input reads as it did. -/
def fnTryToGetImportedEnumValueSameThroughAliasesSpec : ChangeSpec := { name := "fnTryToGetImportedEnumValueSameThroughAliases", vars := ["github.com/evanw/esbuild/internal/ast.InvalidRef"], fn := fun _ => fun
  | [d1, d2, d3, d4, d5, d6, d7, d8, g1] => { results := [.lit (.bool true)], args := [d1, d2, d3, d4, d5, d6, d7, d8], vars := [g1] }
  | _ => none }
def fnTryToGetImportedEnumValueSameThroughAliasesRow : OpenClaim := { program := "ytijbmfmcpcpcaaadoorr", sum := "574ca7f02b2856ab831c7cb5d1a14d51655740d3a82a7c2a27f180dd02443ba3", func := "github.com/evanw/esbuild/n011_301.FnTryToGetImportedEnumValueSameThroughAliases", spec := "fnTryToGetImportedEnumValueSameThroughAliases", recurses := true, named := ["github.com/evanw/esbuild/internal/ast.InvalidRef"], plainKeys := false, apart := false, laid := [("github.com/evanw/esbuild/internal/ast.InvalidRef", laid_github_com_evanw_esbuild_internal_ast_InvalidRef)] }
def FnTryToGetImportedEnumValueSameThroughAliasesSaid : Prop := fnTryToGetImportedEnumValueSameThroughAliasesRow.holds Tryd.pinned (OpenSpec.ofChange fnTryToGetImportedEnumValueSameThroughAliasesSpec)

/-- ITS FALSE NEIGHBOUR: 'it returns false'. Refute it at one input. -/
def fnTryToGetImportedEnumValueSameThroughAliasesWrong : ChangeSpec := { name := "fnTryToGetImportedEnumValueSameThroughAliases", vars := ["github.com/evanw/esbuild/internal/ast.InvalidRef"], fn := fun _ => fun
  | [d1, d2, d3, d4, d5, d6, d7, d8, g1] => { results := [.lit (.bool false)], args := [d1, d2, d3, d4, d5, d6, d7, d8], vars := [g1] }
  | _ => none }
def FnTryToGetImportedEnumValueSameThroughAliasesWrongFalsely : Prop := fnTryToGetImportedEnumValueSameThroughAliasesRow.holds Tryd.pinned (OpenSpec.ofChange fnTryToGetImportedEnumValueSameThroughAliasesWrong)

/- THE SECOND FORM. 'bulk': how many values and letters a reading holds, each counted each time it is reached (what is shared counts as often as it is met; a slice's spare places count too). A statement '..UptoSaid' is the law's where the arguments, and the package variables that the reading takes, are together of bulk at most 1048576: NARROWER than '..Said'. Prove '..Said' where nothing that the law and all that it calls make is longer than what came in: it says more and counts as full. Else prove '..UptoSaid'. A law counts once. -/
mutual
def uptoBulk {H : Type} : DataW H → Nat
  | .lit (.string bytes) => bytes.length + 1
  | .lit _ => 1
  | .nil => 1
  | .ptr d => uptoBulk d + 1
  | .slice elems spare => uptoBulkAll elems + uptoBulkAll spare + 1
  | .agg parts => uptoBulkAll parts + 1
  | .iface _ d => uptoBulk d + 1
  | .map entries => uptoBulkEntries entries + 1
  | .held _ => 1
def uptoBulkAll {H : Type} : List (DataW H) → Nat
  | [] => 0
  | d :: r => uptoBulk d + uptoBulkAll r
def uptoBulkEntries {H : Type} : List (Lit × DataW H) → Nat
  | [] => 0
  | x :: r => uptoBulkEntry x + uptoBulkEntries r
def uptoBulkEntry {H : Type} : Lit × DataW H → Nat
  | (.string bytes, d) => bytes.length + uptoBulk d + 1
  | (_, d) => uptoBulk d + 1
 end
def uptoSmall : (H : Type) → List (DataW H) → Bool := fun _ ds => decide (uptoBulkAll ds ≤ 1048576)
def OpenSpec.upto (s : _root_.Go.ChangeSpec) : _root_.Go.OpenSpec := { _root_.Go.OpenSpec.ofChange s with cond := some uptoSmall }

/-- 'n011_69.FnIsUnboundIdentifierAgreesWithEvalTest', WHERE WHAT IT READS IS OF BULK AT MOST 1048576: true; the input reads as it did. -/
def fnIsUnboundIdentifierAgreesWithEvalTestUptoRow : OpenClaim := { program := "ytijbmfmcpcpcaaadoorr", sum := "574ca7f02b2856ab831c7cb5d1a14d51655740d3a82a7c2a27f180dd02443ba3", func := "github.com/evanw/esbuild/n011_69.FnIsUnboundIdentifierAgreesWithEvalTest", spec := "fnIsUnboundIdentifierAgreesWithEvalTest", recurses := true, named := ["github.com/evanw/esbuild/internal/ast.InvalidRef"], plainKeys := false, apart := false, laid := [("github.com/evanw/esbuild/internal/ast.InvalidRef", laid_github_com_evanw_esbuild_internal_ast_InvalidRef)], narrowed := true }
def FnIsUnboundIdentifierAgreesWithEvalTestUptoSaid : Prop := fnIsUnboundIdentifierAgreesWithEvalTestUptoRow.holds Tryd.pinned (OpenSpec.upto fnIsUnboundIdentifierAgreesWithEvalTestSpec)

/-- 'n011_88.FnIsUnboundEvalIdentifierSpec', WHERE WHAT IT READS IS OF BULK AT MOST 1048576: true; the input reads as it did. -/
def fnIsUnboundEvalIdentifierSpecUptoRow : OpenClaim := { program := "ytijbmfmcpcpcaaadoorr", sum := "574ca7f02b2856ab831c7cb5d1a14d51655740d3a82a7c2a27f180dd02443ba3", func := "github.com/evanw/esbuild/n011_88.FnIsUnboundEvalIdentifierSpec", spec := "fnIsUnboundEvalIdentifierSpec", recurses := true, named := ["github.com/evanw/esbuild/internal/ast.InvalidRef"], plainKeys := false, apart := false, laid := [("github.com/evanw/esbuild/internal/ast.InvalidRef", laid_github_com_evanw_esbuild_internal_ast_InvalidRef)], narrowed := true }
def FnIsUnboundEvalIdentifierSpecUptoSaid : Prop := fnIsUnboundEvalIdentifierSpecUptoRow.holds Tryd.pinned (OpenSpec.upto fnIsUnboundEvalIdentifierSpecSpec)

/-- 'n011_301.FnMangledPropNameIsRootMangledElseOriginal', WHERE WHAT IT READS IS OF BULK AT MOST 1048576: true; the input reads as it did. -/
def fnMangledPropNameIsRootMangledElseOriginalUptoRow : OpenClaim := { program := "ytijbmfmcpcpcaaadoorr", sum := "574ca7f02b2856ab831c7cb5d1a14d51655740d3a82a7c2a27f180dd02443ba3", func := "github.com/evanw/esbuild/n011_301.FnMangledPropNameIsRootMangledElseOriginal", spec := "fnMangledPropNameIsRootMangledElseOriginal", unfollowed := true, recurses := true, named := ["github.com/evanw/esbuild/internal/ast.InvalidRef"], plainKeys := false, apart := false, laid := [("github.com/evanw/esbuild/internal/ast.InvalidRef", laid_github_com_evanw_esbuild_internal_ast_InvalidRef)], narrowed := true }
def FnMangledPropNameIsRootMangledElseOriginalUptoSaid : Prop := fnMangledPropNameIsRootMangledElseOriginalUptoRow.holds Tryd.pinned (OpenSpec.upto fnMangledPropNameIsRootMangledElseOriginalSpec)

/-- 'n011_69.FnIsUnboundIdentifierFollowsLinksToRoot', WHERE WHAT IT READS IS OF BULK AT MOST 1048576: true; the input reads as it did. -/
def fnIsUnboundIdentifierFollowsLinksToRootUptoRow : OpenClaim := { program := "ytijbmfmcpcpcaaadoorr", sum := "574ca7f02b2856ab831c7cb5d1a14d51655740d3a82a7c2a27f180dd02443ba3", func := "github.com/evanw/esbuild/n011_69.FnIsUnboundIdentifierFollowsLinksToRoot", spec := "fnIsUnboundIdentifierFollowsLinksToRoot", recurses := true, named := ["github.com/evanw/esbuild/internal/ast.InvalidRef"], plainKeys := false, apart := false, laid := [("github.com/evanw/esbuild/internal/ast.InvalidRef", laid_github_com_evanw_esbuild_internal_ast_InvalidRef)], narrowed := true }
def FnIsUnboundIdentifierFollowsLinksToRootUptoSaid : Prop := fnIsUnboundIdentifierFollowsLinksToRootUptoRow.holds Tryd.pinned (OpenSpec.upto fnIsUnboundIdentifierFollowsLinksToRootSpec)

/-- 'n011_301.FnTryToGetImportedEnumValueSameThroughAliases', WHERE WHAT IT READS IS OF BULK AT MOST 1048576: true; the input reads as it did. -/
def fnTryToGetImportedEnumValueSameThroughAliasesUptoRow : OpenClaim := { program := "ytijbmfmcpcpcaaadoorr", sum := "574ca7f02b2856ab831c7cb5d1a14d51655740d3a82a7c2a27f180dd02443ba3", func := "github.com/evanw/esbuild/n011_301.FnTryToGetImportedEnumValueSameThroughAliases", spec := "fnTryToGetImportedEnumValueSameThroughAliases", recurses := true, named := ["github.com/evanw/esbuild/internal/ast.InvalidRef"], plainKeys := false, apart := false, laid := [("github.com/evanw/esbuild/internal/ast.InvalidRef", laid_github_com_evanw_esbuild_internal_ast_InvalidRef)], narrowed := true }
def FnTryToGetImportedEnumValueSameThroughAliasesUptoSaid : Prop := fnTryToGetImportedEnumValueSameThroughAliasesUptoRow.holds Tryd.pinned (OpenSpec.upto fnTryToGetImportedEnumValueSameThroughAliasesSpec)

end Rows
end Go.Proofs.YtijbmfmcpcpcaaaDoorR
