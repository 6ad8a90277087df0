/-
  NARROWER THAN 'FOR EVERY INPUT', by the rows' own cells (each row's printed sentence says how): FnMergeSymbolsScriptIsUnionFind: laid · FnFollowAllSymbolsFlattens: laid · FnFollowSymbolsCompressesOnlyItsPath: laid.
  DERIVED. THE GIVEN ROWS OF THIS SEAT. 3 by the template 'for every input the law returns true; each argument reads behind the call as it read before'; 0 by the template 'total and deterministic' (their statements: YticcbjgjjmmbcaaDoorTotals.lean).
  GIVEN WITH THE SEED: the statements are not yours to turn. If you find one false, say at which input.
  Laid BY PROGRAM, IN A SANDBOX (cutbox-rows.mjs): the forced cells as the released guide's own fill.sh prints them over the translation 028cfa32682a44c7… (all of the seat's roots in one cut). By AI agents, Wed Nov 11 2026. No macro, syntax, notation, axiom, sorry.
-/
import Derived.Test.YticcbjgjjmmbcaaDoorChecked
import GoSem.Claim
import GoSem.ClaimJoined
import GoSem.ClaimMapViews
import Derived.JoinedTies
import Derived.KernelRfl
namespace Go.Proofs.YticcbjgjjmmbcaaDoor
/- THE CELL 'sum', in the pinned program and in every row, IS THE sha256 OF THE DUMP (.gsa) THAT YticcbjgjjmmbcaaDoorProg.lean LOADS. Nothing in Lean hashes anything: it is a label: what it is worth is what the hold of that sum in a sandbox is worth. -/
noncomputable def Tryd.pinned : Pinned := { name := "yticcbjgjjmmbcaadoor", sum := "028cfa32682a44c787053128697663c629370dc9334e8312b1c9e7469b882c7c", checked := Tryd.checked }
namespace Rows
def none {H : Type} : Left H := { results := [], args := [] }

/- WHAT THE LISTED PACKAGE-LEVEL VARIABLES READ AS WHEN THE CALL BEGINS. Each datum BY PROGRAM (the guide's laid-datum.mjs) off the statement by which the dump's own 'gosem.cut.vars' lays the variable. In a bare row this is a premise. The card (YticcbjgjjmmbcaaDoorCards.lean) ties it to the program's text. -/
def laid_github_com_evanw_esbuild_internal_ast_InvalidRef {H : Type} : DataW H := .agg [.lit (.int .u32 4294967295), .lit (.int .u32 4294967295)]

/-- 'n011_236.FnMergeSymbolsScriptIsUnionFind': WHATEVER THE INPUT: true; the input reads as it did. -/
def fnMergeSymbolsScriptIsUnionFindSpec : ChangeSpec := { name := "fnMergeSymbolsScriptIsUnionFind", vars := ["github.com/evanw/esbuild/internal/ast.InvalidRef"], fn := fun _ => fun
  | [d1, d2, d3, d4, g1] => { results := [.lit (.bool true)], args := [d1, d2, d3, d4], vars := [g1] }
  | _ => none }
def fnMergeSymbolsScriptIsUnionFindRow : OpenClaim := { program := "yticcbjgjjmmbcaadoor", sum := "028cfa32682a44c787053128697663c629370dc9334e8312b1c9e7469b882c7c", func := "github.com/evanw/esbuild/n011_236.FnMergeSymbolsScriptIsUnionFind", spec := "fnMergeSymbolsScriptIsUnionFind", recurses := true, named := ["github.com/evanw/esbuild/internal/ast.InvalidRef"], apart := false, laid := [("github.com/evanw/esbuild/internal/ast.InvalidRef", laid_github_com_evanw_esbuild_internal_ast_InvalidRef)] }
def FnMergeSymbolsScriptIsUnionFindSaid : Prop := fnMergeSymbolsScriptIsUnionFindRow.holds Tryd.pinned (OpenSpec.ofChange fnMergeSymbolsScriptIsUnionFindSpec)

/-- ITS FALSE NEIGHBOUR: 'it returns false'. Refute it at one input. -/
def fnMergeSymbolsScriptIsUnionFindWrong : ChangeSpec := { name := "fnMergeSymbolsScriptIsUnionFind", vars := ["github.com/evanw/esbuild/internal/ast.InvalidRef"], fn := fun _ => fun
  | [d1, d2, d3, d4, g1] => { results := [.lit (.bool false)], args := [d1, d2, d3, d4], vars := [g1] }
  | _ => none }
def FnMergeSymbolsScriptIsUnionFindWrongFalsely : Prop := fnMergeSymbolsScriptIsUnionFindRow.holds Tryd.pinned (OpenSpec.ofChange fnMergeSymbolsScriptIsUnionFindWrong)

/-- 'n011_236.FnFollowAllSymbolsFlattens': WHATEVER THE INPUT: true; the input reads as it did. -/
def fnFollowAllSymbolsFlattensSpec : ChangeSpec := { name := "fnFollowAllSymbolsFlattens", vars := ["github.com/evanw/esbuild/internal/ast.InvalidRef"], fn := fun _ => fun
  | [d1, d2, g1] => { results := [.lit (.bool true)], args := [d1, d2], vars := [g1] }
  | _ => none }
def fnFollowAllSymbolsFlattensRow : OpenClaim := { program := "yticcbjgjjmmbcaadoor", sum := "028cfa32682a44c787053128697663c629370dc9334e8312b1c9e7469b882c7c", func := "github.com/evanw/esbuild/n011_236.FnFollowAllSymbolsFlattens", spec := "fnFollowAllSymbolsFlattens", recurses := true, named := ["github.com/evanw/esbuild/internal/ast.InvalidRef"], apart := false, laid := [("github.com/evanw/esbuild/internal/ast.InvalidRef", laid_github_com_evanw_esbuild_internal_ast_InvalidRef)] }
def FnFollowAllSymbolsFlattensSaid : Prop := fnFollowAllSymbolsFlattensRow.holds Tryd.pinned (OpenSpec.ofChange fnFollowAllSymbolsFlattensSpec)

/-- ITS FALSE NEIGHBOUR: 'it returns false'. Refute it at one input. -/
def fnFollowAllSymbolsFlattensWrong : ChangeSpec := { name := "fnFollowAllSymbolsFlattens", vars := ["github.com/evanw/esbuild/internal/ast.InvalidRef"], fn := fun _ => fun
  | [d1, d2, g1] => { results := [.lit (.bool false)], args := [d1, d2], vars := [g1] }
  | _ => none }
def FnFollowAllSymbolsFlattensWrongFalsely : Prop := fnFollowAllSymbolsFlattensRow.holds Tryd.pinned (OpenSpec.ofChange fnFollowAllSymbolsFlattensWrong)

/-- 'n011_236.FnFollowSymbolsCompressesOnlyItsPath': WHATEVER THE INPUT: true; the input reads as it did. -/
def fnFollowSymbolsCompressesOnlyItsPathSpec : ChangeSpec := { name := "fnFollowSymbolsCompressesOnlyItsPath", vars := ["github.com/evanw/esbuild/internal/ast.InvalidRef"], fn := fun _ => fun
  | [d1, d2, d3, g1] => { results := [.lit (.bool true)], args := [d1, d2, d3], vars := [g1] }
  | _ => none }
def fnFollowSymbolsCompressesOnlyItsPathRow : OpenClaim := { program := "yticcbjgjjmmbcaadoor", sum := "028cfa32682a44c787053128697663c629370dc9334e8312b1c9e7469b882c7c", func := "github.com/evanw/esbuild/n011_236.FnFollowSymbolsCompressesOnlyItsPath", spec := "fnFollowSymbolsCompressesOnlyItsPath", recurses := true, named := ["github.com/evanw/esbuild/internal/ast.InvalidRef"], apart := false, laid := [("github.com/evanw/esbuild/internal/ast.InvalidRef", laid_github_com_evanw_esbuild_internal_ast_InvalidRef)] }
def FnFollowSymbolsCompressesOnlyItsPathSaid : Prop := fnFollowSymbolsCompressesOnlyItsPathRow.holds Tryd.pinned (OpenSpec.ofChange fnFollowSymbolsCompressesOnlyItsPathSpec)

/-- ITS FALSE NEIGHBOUR: 'it returns false'. Refute it at one input. -/
def fnFollowSymbolsCompressesOnlyItsPathWrong : ChangeSpec := { name := "fnFollowSymbolsCompressesOnlyItsPath", vars := ["github.com/evanw/esbuild/internal/ast.InvalidRef"], fn := fun _ => fun
  | [d1, d2, d3, g1] => { results := [.lit (.bool false)], args := [d1, d2, d3], vars := [g1] }
  | _ => none }
def FnFollowSymbolsCompressesOnlyItsPathWrongFalsely : Prop := fnFollowSymbolsCompressesOnlyItsPathRow.holds Tryd.pinned (OpenSpec.ofChange fnFollowSymbolsCompressesOnlyItsPathWrong)

/- THE SECOND FORM. 'bulk': how many values and letters a reading holds, each counted each time it is reached (what is shared counts as often as it is met; a slice's spare places count too). A statement '..UptoSaid' is the law's where the arguments, and the package variables that the reading takes, are together of bulk at most 1048576: NARROWER than '..Said'. Prove '..Said' where nothing that the law and all that it calls make is longer than what came in: it says more and counts as full. Else prove '..UptoSaid'. A law counts once. -/
mutual
def uptoBulk {H : Type} : DataW H → Nat
  | .lit (.string bytes) => bytes.length + 1
  | .lit _ => 1
  | .nil => 1
  | .ptr d => uptoBulk d + 1
  | .slice elems spare => uptoBulkAll elems + uptoBulkAll spare + 1
  | .agg parts => uptoBulkAll parts + 1
  | .iface _ d => uptoBulk d + 1
  | .map entries => uptoBulkEntries entries + 1
  | .held _ => 1
def uptoBulkAll {H : Type} : List (DataW H) → Nat
  | [] => 0
  | d :: r => uptoBulk d + uptoBulkAll r
def uptoBulkEntries {H : Type} : List (Lit × DataW H) → Nat
  | [] => 0
  | x :: r => uptoBulkEntry x + uptoBulkEntries r
def uptoBulkEntry {H : Type} : Lit × DataW H → Nat
  | (.string bytes, d) => bytes.length + uptoBulk d + 1
  | (_, d) => uptoBulk d + 1
 end
def uptoSmall : (H : Type) → List (DataW H) → Bool := fun _ ds => decide (uptoBulkAll ds ≤ 1048576)
def OpenSpec.upto (s : _root_.Go.ChangeSpec) : _root_.Go.OpenSpec := { _root_.Go.OpenSpec.ofChange s with cond := some uptoSmall }

/-- 'n011_236.FnMergeSymbolsScriptIsUnionFind', WHERE WHAT IT READS IS OF BULK AT MOST 1048576: true; the input reads as it did. -/
def fnMergeSymbolsScriptIsUnionFindUptoRow : OpenClaim := { program := "yticcbjgjjmmbcaadoor", sum := "028cfa32682a44c787053128697663c629370dc9334e8312b1c9e7469b882c7c", func := "github.com/evanw/esbuild/n011_236.FnMergeSymbolsScriptIsUnionFind", spec := "fnMergeSymbolsScriptIsUnionFind", recurses := true, named := ["github.com/evanw/esbuild/internal/ast.InvalidRef"], apart := false, laid := [("github.com/evanw/esbuild/internal/ast.InvalidRef", laid_github_com_evanw_esbuild_internal_ast_InvalidRef)], narrowed := true }
def FnMergeSymbolsScriptIsUnionFindUptoSaid : Prop := fnMergeSymbolsScriptIsUnionFindUptoRow.holds Tryd.pinned (OpenSpec.upto fnMergeSymbolsScriptIsUnionFindSpec)

/-- 'n011_236.FnFollowAllSymbolsFlattens', WHERE WHAT IT READS IS OF BULK AT MOST 1048576: true; the input reads as it did. -/
def fnFollowAllSymbolsFlattensUptoRow : OpenClaim := { program := "yticcbjgjjmmbcaadoor", sum := "028cfa32682a44c787053128697663c629370dc9334e8312b1c9e7469b882c7c", func := "github.com/evanw/esbuild/n011_236.FnFollowAllSymbolsFlattens", spec := "fnFollowAllSymbolsFlattens", recurses := true, named := ["github.com/evanw/esbuild/internal/ast.InvalidRef"], apart := false, laid := [("github.com/evanw/esbuild/internal/ast.InvalidRef", laid_github_com_evanw_esbuild_internal_ast_InvalidRef)], narrowed := true }
def FnFollowAllSymbolsFlattensUptoSaid : Prop := fnFollowAllSymbolsFlattensUptoRow.holds Tryd.pinned (OpenSpec.upto fnFollowAllSymbolsFlattensSpec)

/-- 'n011_236.FnFollowSymbolsCompressesOnlyItsPath', WHERE WHAT IT READS IS OF BULK AT MOST 1048576: true; the input reads as it did. -/
def fnFollowSymbolsCompressesOnlyItsPathUptoRow : OpenClaim := { program := "yticcbjgjjmmbcaadoor", sum := "028cfa32682a44c787053128697663c629370dc9334e8312b1c9e7469b882c7c", func := "github.com/evanw/esbuild/n011_236.FnFollowSymbolsCompressesOnlyItsPath", spec := "fnFollowSymbolsCompressesOnlyItsPath", recurses := true, named := ["github.com/evanw/esbuild/internal/ast.InvalidRef"], apart := false, laid := [("github.com/evanw/esbuild/internal/ast.InvalidRef", laid_github_com_evanw_esbuild_internal_ast_InvalidRef)], narrowed := true }
def FnFollowSymbolsCompressesOnlyItsPathUptoSaid : Prop := fnFollowSymbolsCompressesOnlyItsPathUptoRow.holds Tryd.pinned (OpenSpec.upto fnFollowSymbolsCompressesOnlyItsPathSpec)

end Rows
end Go.Proofs.YticcbjgjjmmbcaaDoor
