/-
  No cell of these rows narrows 'for every input' (looked for: loops, veiled, ifaces, maps, wideKeys, modest, calm, conditions, laid).
  DERIVED. THE GIVEN ROWS OF THIS SEAT. 6 by the template 'for every input the law returns true; each argument reads behind the call as it read before'; 0 by the template 'total and deterministic' (their statements: YtkmleifkceghlabTotals.lean).
  GIVEN WITH THE SEED: the statements are not yours to turn. If you find one false, say at which input.
  Laid BY PROGRAM, IN A SANDBOX (cutbox-rows.mjs): the forced cells as the released guide's own fill.sh prints them over the translation 4e965c8405ac5b59… (all of the seat's roots in one cut). By AI agents, Wed Nov 11 2026. No macro, syntax, notation, axiom, sorry.
-/
import Derived.Test.YtkmleifkceghlabChecked
import GoSem.Claim
import GoSem.ClaimJoined
import GoSem.ClaimMapViews
import Derived.JoinedTies
import Derived.KernelRfl
namespace Go.Proofs.Ytkmleifkceghlab
/- THE CELL 'sum', in the pinned program and in every row, IS THE sha256 OF THE DUMP (.gsa) THAT YtkmleifkceghlabProg.lean LOADS. Nothing in Lean hashes anything: it is a label: what it is worth is what the hold of that sum in a sandbox is worth. -/
noncomputable def Try.pinned : Pinned := { name := "ytkmleifkceghlab", sum := "4e965c8405ac5b59587d3659e0f53dbd4e36f000abbccba192a1d0150c67dc11", checked := Try.checked }
namespace Rows
def none {H : Type} : Left H := { results := [], args := [] }

/-- 'n011_288.FnIndex32ZeroValueIsMaxSentinel': WHATEVER THE INPUT: true; the input reads as it did. -/
def fnIndex32ZeroValueIsMaxSentinelSpec : ChangeSpec := { name := "fnIndex32ZeroValueIsMaxSentinel", fn := fun _ => fun
  | [d] => { results := [.lit (.bool true)], args := [d] }
  | _ => none }
def fnIndex32ZeroValueIsMaxSentinelRow : OpenClaim := { program := "ytkmleifkceghlab", sum := "4e965c8405ac5b59587d3659e0f53dbd4e36f000abbccba192a1d0150c67dc11", func := "github.com/evanw/esbuild/n011_288.FnIndex32ZeroValueIsMaxSentinel", spec := "fnIndex32ZeroValueIsMaxSentinel", apart := false }
def FnIndex32ZeroValueIsMaxSentinelSaid : Prop := fnIndex32ZeroValueIsMaxSentinelRow.holds Try.pinned (OpenSpec.ofChange fnIndex32ZeroValueIsMaxSentinelSpec)

/-- ITS FALSE NEIGHBOUR: 'it returns false'. Refute it at one input. -/
def fnIndex32ZeroValueIsMaxSentinelWrong : ChangeSpec := { name := "fnIndex32ZeroValueIsMaxSentinel", fn := fun _ => fun
  | [d] => { results := [.lit (.bool false)], args := [d] }
  | _ => none }
def FnIndex32ZeroValueIsMaxSentinelWrongFalsely : Prop := fnIndex32ZeroValueIsMaxSentinelRow.holds Try.pinned (OpenSpec.ofChange fnIndex32ZeroValueIsMaxSentinelWrong)

/-- 'n011_5.FnParseSmallIntInvertsDecimal': WHATEVER THE INPUT: true; the input reads as it did. -/
def fnParseSmallIntInvertsDecimalSpec : ChangeSpec := { name := "fnParseSmallIntInvertsDecimal", fn := fun _ => fun
  | [d] => { results := [.lit (.bool true)], args := [d] }
  | _ => none }
def fnParseSmallIntInvertsDecimalRow : OpenClaim := { program := "ytkmleifkceghlab", sum := "4e965c8405ac5b59587d3659e0f53dbd4e36f000abbccba192a1d0150c67dc11", func := "github.com/evanw/esbuild/n011_5.FnParseSmallIntInvertsDecimal", spec := "fnParseSmallIntInvertsDecimal", apart := false }
def FnParseSmallIntInvertsDecimalSaid : Prop := fnParseSmallIntInvertsDecimalRow.holds Try.pinned (OpenSpec.ofChange fnParseSmallIntInvertsDecimalSpec)

/-- ITS FALSE NEIGHBOUR: 'it returns false'. Refute it at one input. -/
def fnParseSmallIntInvertsDecimalWrong : ChangeSpec := { name := "fnParseSmallIntInvertsDecimal", fn := fun _ => fun
  | [d] => { results := [.lit (.bool false)], args := [d] }
  | _ => none }
def FnParseSmallIntInvertsDecimalWrongFalsely : Prop := fnParseSmallIntInvertsDecimalRow.holds Try.pinned (OpenSpec.ofChange fnParseSmallIntInvertsDecimalWrong)

/-- 'n011_13.FnFlagsHasBitModel': WHATEVER THE INPUT: true; the input reads as it did. -/
def fnFlagsHasBitModelSpec : ChangeSpec := { name := "fnFlagsHasBitModel", fn := fun _ => fun
  | [d1, d2] => { results := [.lit (.bool true)], args := [d1, d2] }
  | _ => none }
def fnFlagsHasBitModelRow : OpenClaim := { program := "ytkmleifkceghlab", sum := "4e965c8405ac5b59587d3659e0f53dbd4e36f000abbccba192a1d0150c67dc11", func := "github.com/evanw/esbuild/n011_13.FnFlagsHasBitModel", spec := "fnFlagsHasBitModel", apart := false }
def FnFlagsHasBitModelSaid : Prop := fnFlagsHasBitModelRow.holds Try.pinned (OpenSpec.ofChange fnFlagsHasBitModelSpec)

/-- ITS FALSE NEIGHBOUR: 'it returns false'. Refute it at one input. -/
def fnFlagsHasBitModelWrong : ChangeSpec := { name := "fnFlagsHasBitModel", fn := fun _ => fun
  | [d1, d2] => { results := [.lit (.bool false)], args := [d1, d2] }
  | _ => none }
def FnFlagsHasBitModelWrongFalsely : Prop := fnFlagsHasBitModelRow.holds Try.pinned (OpenSpec.ofChange fnFlagsHasBitModelWrong)

/-- 'n011_13.FnCSSKindsNestURLAloneLoose': WHATEVER THE INPUT: true; the input reads as it did. -/
def fnCSSKindsNestURLAloneLooseSpec : ChangeSpec := { name := "fnCSSKindsNestURLAloneLoose", fn := fun _ => fun
  | [d] => { results := [.lit (.bool true)], args := [d] }
  | _ => none }
def fnCSSKindsNestURLAloneLooseRow : OpenClaim := { program := "ytkmleifkceghlab", sum := "4e965c8405ac5b59587d3659e0f53dbd4e36f000abbccba192a1d0150c67dc11", func := "github.com/evanw/esbuild/n011_13.FnCSSKindsNestURLAloneLoose", spec := "fnCSSKindsNestURLAloneLoose", apart := false }
def FnCSSKindsNestURLAloneLooseSaid : Prop := fnCSSKindsNestURLAloneLooseRow.holds Try.pinned (OpenSpec.ofChange fnCSSKindsNestURLAloneLooseSpec)

/-- ITS FALSE NEIGHBOUR: 'it returns false'. Refute it at one input. -/
def fnCSSKindsNestURLAloneLooseWrong : ChangeSpec := { name := "fnCSSKindsNestURLAloneLoose", fn := fun _ => fun
  | [d] => { results := [.lit (.bool false)], args := [d] }
  | _ => none }
def FnCSSKindsNestURLAloneLooseWrongFalsely : Prop := fnCSSKindsNestURLAloneLooseRow.holds Try.pinned (OpenSpec.ofChange fnCSSKindsNestURLAloneLooseWrong)

/-- 'n011_63.FnIncludeCommutesAndNegationUndoes': WHATEVER THE INPUT: true; the input reads as it did. -/
def fnIncludeCommutesAndNegationUndoesSpec : ChangeSpec := { name := "fnIncludeCommutesAndNegationUndoes", fn := fun _ => fun
  | [d1, d2] => { results := [.lit (.bool true)], args := [d1, d2] }
  | _ => none }
def fnIncludeCommutesAndNegationUndoesRow : OpenClaim := { program := "ytkmleifkceghlab", sum := "4e965c8405ac5b59587d3659e0f53dbd4e36f000abbccba192a1d0150c67dc11", func := "github.com/evanw/esbuild/n011_63.FnIncludeCommutesAndNegationUndoes", spec := "fnIncludeCommutesAndNegationUndoes", apart := false }
def FnIncludeCommutesAndNegationUndoesSaid : Prop := fnIncludeCommutesAndNegationUndoesRow.holds Try.pinned (OpenSpec.ofChange fnIncludeCommutesAndNegationUndoesSpec)

/-- ITS FALSE NEIGHBOUR: 'it returns false'. Refute it at one input. -/
def fnIncludeCommutesAndNegationUndoesWrong : ChangeSpec := { name := "fnIncludeCommutesAndNegationUndoes", fn := fun _ => fun
  | [d1, d2] => { results := [.lit (.bool false)], args := [d1, d2] }
  | _ => none }
def FnIncludeCommutesAndNegationUndoesWrongFalsely : Prop := fnIncludeCommutesAndNegationUndoesRow.holds Try.pinned (OpenSpec.ofChange fnIncludeCommutesAndNegationUndoesWrong)

/-- 'n011_211.FnChunkOrderLessIsStrictTotalOrder': WHATEVER THE INPUT: true; the input reads as it did. -/
def fnChunkOrderLessIsStrictTotalOrderSpec : ChangeSpec := { name := "fnChunkOrderLessIsStrictTotalOrder", fn := fun _ => fun
  | [d1, d2, d3, d4, d5, d6, d7, d8] => { results := [.lit (.bool true)], args := [d1, d2, d3, d4, d5, d6, d7, d8] }
  | _ => none }
def fnChunkOrderLessIsStrictTotalOrderRow : OpenClaim := { program := "ytkmleifkceghlab", sum := "4e965c8405ac5b59587d3659e0f53dbd4e36f000abbccba192a1d0150c67dc11", func := "github.com/evanw/esbuild/n011_211.FnChunkOrderLessIsStrictTotalOrder", spec := "fnChunkOrderLessIsStrictTotalOrder", apart := false }
def FnChunkOrderLessIsStrictTotalOrderSaid : Prop := fnChunkOrderLessIsStrictTotalOrderRow.holds Try.pinned (OpenSpec.ofChange fnChunkOrderLessIsStrictTotalOrderSpec)

/-- ITS FALSE NEIGHBOUR: 'it returns false'. Refute it at one input. -/
def fnChunkOrderLessIsStrictTotalOrderWrong : ChangeSpec := { name := "fnChunkOrderLessIsStrictTotalOrder", fn := fun _ => fun
  | [d1, d2, d3, d4, d5, d6, d7, d8] => { results := [.lit (.bool false)], args := [d1, d2, d3, d4, d5, d6, d7, d8] }
  | _ => none }
def FnChunkOrderLessIsStrictTotalOrderWrongFalsely : Prop := fnChunkOrderLessIsStrictTotalOrderRow.holds Try.pinned (OpenSpec.ofChange fnChunkOrderLessIsStrictTotalOrderWrong)

/- THE SECOND FORM. 'bulk': how many values and letters a reading holds, each counted each time it is reached (what is shared counts as often as it is met; a slice's spare places count too). A statement '..UptoSaid' is the law's where the arguments, and the package variables that the reading takes, are together of bulk at most 1048576: NARROWER than '..Said'. Prove '..Said' where nothing that the law and all that it calls make is longer than what came in: it says more and counts as full. Else prove '..UptoSaid'. A law counts once. -/
mutual
def uptoBulk {H : Type} : DataW H → Nat
  | .lit (.string bytes) => bytes.length + 1
  | .lit _ => 1
  | .nil => 1
  | .ptr d => uptoBulk d + 1
  | .slice elems spare => uptoBulkAll elems + uptoBulkAll spare + 1
  | .agg parts => uptoBulkAll parts + 1
  | .iface _ d => uptoBulk d + 1
  | .map entries => uptoBulkEntries entries + 1
  | .held _ => 1
def uptoBulkAll {H : Type} : List (DataW H) → Nat
  | [] => 0
  | d :: r => uptoBulk d + uptoBulkAll r
def uptoBulkEntries {H : Type} : List (Lit × DataW H) → Nat
  | [] => 0
  | x :: r => uptoBulkEntry x + uptoBulkEntries r
def uptoBulkEntry {H : Type} : Lit × DataW H → Nat
  | (.string bytes, d) => bytes.length + uptoBulk d + 1
  | (_, d) => uptoBulk d + 1
 end
def uptoSmall : (H : Type) → List (DataW H) → Bool := fun _ ds => decide (uptoBulkAll ds ≤ 1048576)
def OpenSpec.upto (s : _root_.Go.ChangeSpec) : _root_.Go.OpenSpec := { _root_.Go.OpenSpec.ofChange s with cond := some uptoSmall }

/-- 'n011_288.FnIndex32ZeroValueIsMaxSentinel', WHERE WHAT IT READS IS OF BULK AT MOST 1048576: true; the input reads as it did. -/
def fnIndex32ZeroValueIsMaxSentinelUptoRow : OpenClaim := { program := "ytkmleifkceghlab", sum := "4e965c8405ac5b59587d3659e0f53dbd4e36f000abbccba192a1d0150c67dc11", func := "github.com/evanw/esbuild/n011_288.FnIndex32ZeroValueIsMaxSentinel", spec := "fnIndex32ZeroValueIsMaxSentinel", apart := false, narrowed := true }
def FnIndex32ZeroValueIsMaxSentinelUptoSaid : Prop := fnIndex32ZeroValueIsMaxSentinelUptoRow.holds Try.pinned (OpenSpec.upto fnIndex32ZeroValueIsMaxSentinelSpec)

/-- 'n011_5.FnParseSmallIntInvertsDecimal', WHERE WHAT IT READS IS OF BULK AT MOST 1048576: true; the input reads as it did. -/
def fnParseSmallIntInvertsDecimalUptoRow : OpenClaim := { program := "ytkmleifkceghlab", sum := "4e965c8405ac5b59587d3659e0f53dbd4e36f000abbccba192a1d0150c67dc11", func := "github.com/evanw/esbuild/n011_5.FnParseSmallIntInvertsDecimal", spec := "fnParseSmallIntInvertsDecimal", apart := false, narrowed := true }
def FnParseSmallIntInvertsDecimalUptoSaid : Prop := fnParseSmallIntInvertsDecimalUptoRow.holds Try.pinned (OpenSpec.upto fnParseSmallIntInvertsDecimalSpec)

/-- 'n011_13.FnFlagsHasBitModel', WHERE WHAT IT READS IS OF BULK AT MOST 1048576: true; the input reads as it did. -/
def fnFlagsHasBitModelUptoRow : OpenClaim := { program := "ytkmleifkceghlab", sum := "4e965c8405ac5b59587d3659e0f53dbd4e36f000abbccba192a1d0150c67dc11", func := "github.com/evanw/esbuild/n011_13.FnFlagsHasBitModel", spec := "fnFlagsHasBitModel", apart := false, narrowed := true }
def FnFlagsHasBitModelUptoSaid : Prop := fnFlagsHasBitModelUptoRow.holds Try.pinned (OpenSpec.upto fnFlagsHasBitModelSpec)

/-- 'n011_13.FnCSSKindsNestURLAloneLoose', WHERE WHAT IT READS IS OF BULK AT MOST 1048576: true; the input reads as it did. -/
def fnCSSKindsNestURLAloneLooseUptoRow : OpenClaim := { program := "ytkmleifkceghlab", sum := "4e965c8405ac5b59587d3659e0f53dbd4e36f000abbccba192a1d0150c67dc11", func := "github.com/evanw/esbuild/n011_13.FnCSSKindsNestURLAloneLoose", spec := "fnCSSKindsNestURLAloneLoose", apart := false, narrowed := true }
def FnCSSKindsNestURLAloneLooseUptoSaid : Prop := fnCSSKindsNestURLAloneLooseUptoRow.holds Try.pinned (OpenSpec.upto fnCSSKindsNestURLAloneLooseSpec)

/-- 'n011_63.FnIncludeCommutesAndNegationUndoes', WHERE WHAT IT READS IS OF BULK AT MOST 1048576: true; the input reads as it did. -/
def fnIncludeCommutesAndNegationUndoesUptoRow : OpenClaim := { program := "ytkmleifkceghlab", sum := "4e965c8405ac5b59587d3659e0f53dbd4e36f000abbccba192a1d0150c67dc11", func := "github.com/evanw/esbuild/n011_63.FnIncludeCommutesAndNegationUndoes", spec := "fnIncludeCommutesAndNegationUndoes", apart := false, narrowed := true }
def FnIncludeCommutesAndNegationUndoesUptoSaid : Prop := fnIncludeCommutesAndNegationUndoesUptoRow.holds Try.pinned (OpenSpec.upto fnIncludeCommutesAndNegationUndoesSpec)

/-- 'n011_211.FnChunkOrderLessIsStrictTotalOrder', WHERE WHAT IT READS IS OF BULK AT MOST 1048576: true; the input reads as it did. -/
def fnChunkOrderLessIsStrictTotalOrderUptoRow : OpenClaim := { program := "ytkmleifkceghlab", sum := "4e965c8405ac5b59587d3659e0f53dbd4e36f000abbccba192a1d0150c67dc11", func := "github.com/evanw/esbuild/n011_211.FnChunkOrderLessIsStrictTotalOrder", spec := "fnChunkOrderLessIsStrictTotalOrder", apart := false, narrowed := true }
def FnChunkOrderLessIsStrictTotalOrderUptoSaid : Prop := fnChunkOrderLessIsStrictTotalOrderUptoRow.holds Try.pinned (OpenSpec.upto fnChunkOrderLessIsStrictTotalOrderSpec)

end Rows
end Go.Proofs.Ytkmleifkceghlab
