/-
  No cell of these rows narrows 'for every input' (looked for: loops, veiled, ifaces, maps, wideKeys, modest, calm, conditions, laid).
  DERIVED. THE GIVEN ROWS OF THIS SEAT. 10 by the template 'for every input the law returns true; each argument reads behind the call as it read before'; 0 by the template 'total and deterministic' (their statements: YtgoffcpchgepeaaTotals.lean).
  GIVEN WITH THE SEED: the statements are not yours to turn. If you find one false, say at which input.
  Laid BY PROGRAM, IN A SANDBOX (cutbox-rows.mjs): the forced cells as the released guide's own fill.sh prints them over the translation e068f8d57303606f… (all of the seat's roots in one cut). By AI agents, Wed Nov 11 2026. No macro, syntax, notation, axiom, sorry.
-/
import Derived.Test.YtgoffcpchgepeaaChecked
import GoSem.Claim
import GoSem.ClaimJoined
import GoSem.ClaimMapViews
import Derived.JoinedTies
import Derived.KernelRfl
namespace Go.Proofs.Ytgoffcpchgepeaa
/- THE CELL 'sum', in the pinned program and in every row, IS THE sha256 OF THE DUMP (.gsa) THAT YtgoffcpchgepeaaProg.lean LOADS. Nothing in Lean hashes anything: it is a label: what it is worth is what the hold of that sum in a sandbox is worth. -/
noncomputable def Try.pinned : Pinned := { name := "ytgoffcpchgepeaa", sum := "e068f8d57303606fc072fbdb61b30c450d9bea0210ac452bd99ac533dd6690b2", checked := Try.checked }
namespace Rows
def none {H : Type} : Left H := { results := [], args := [] }

/-- 'n011_80.FnSemicolonIfNeededIdempotent': WHATEVER THE INPUT: true; the input reads as it did. -/
def fnSemicolonIfNeededIdempotentSpec : ChangeSpec := { name := "fnSemicolonIfNeededIdempotent", fn := fun _ => fun
  | [d1, d2] => { results := [.lit (.bool true)], args := [d1, d2] }
  | _ => none }
def fnSemicolonIfNeededIdempotentRow : OpenClaim := { program := "ytgoffcpchgepeaa", sum := "e068f8d57303606fc072fbdb61b30c450d9bea0210ac452bd99ac533dd6690b2", func := "github.com/evanw/esbuild/n011_80.FnSemicolonIfNeededIdempotent", spec := "fnSemicolonIfNeededIdempotent", plainKeys := false, apart := false }
def FnSemicolonIfNeededIdempotentSaid : Prop := fnSemicolonIfNeededIdempotentRow.holds Try.pinned (OpenSpec.ofChange fnSemicolonIfNeededIdempotentSpec)

/-- ITS FALSE NEIGHBOUR: 'it returns false'. Refute it at one input. -/
def fnSemicolonIfNeededIdempotentWrong : ChangeSpec := { name := "fnSemicolonIfNeededIdempotent", fn := fun _ => fun
  | [d1, d2] => { results := [.lit (.bool false)], args := [d1, d2] }
  | _ => none }
def FnSemicolonIfNeededIdempotentWrongFalsely : Prop := fnSemicolonIfNeededIdempotentRow.holds Try.pinned (OpenSpec.ofChange fnSemicolonIfNeededIdempotentWrong)

/-- 'n011_297.FnPrintAgreesWithPrintBytes': WHATEVER THE INPUT: true; the input reads as it did. -/
def fnPrintAgreesWithPrintBytesSpec : ChangeSpec := { name := "fnPrintAgreesWithPrintBytes", fn := fun _ => fun
  | [d1, d2, d3] => { results := [.lit (.bool true)], args := [d1, d2, d3] }
  | _ => none }
def fnPrintAgreesWithPrintBytesRow : OpenClaim := { program := "ytgoffcpchgepeaa", sum := "e068f8d57303606fc072fbdb61b30c450d9bea0210ac452bd99ac533dd6690b2", func := "github.com/evanw/esbuild/n011_297.FnPrintAgreesWithPrintBytes", spec := "fnPrintAgreesWithPrintBytes", plainKeys := false, apart := false }
def FnPrintAgreesWithPrintBytesSaid : Prop := fnPrintAgreesWithPrintBytesRow.holds Try.pinned (OpenSpec.ofChange fnPrintAgreesWithPrintBytesSpec)

/-- ITS FALSE NEIGHBOUR: 'it returns false'. Refute it at one input. -/
def fnPrintAgreesWithPrintBytesWrong : ChangeSpec := { name := "fnPrintAgreesWithPrintBytes", fn := fun _ => fun
  | [d1, d2, d3] => { results := [.lit (.bool false)], args := [d1, d2, d3] }
  | _ => none }
def FnPrintAgreesWithPrintBytesWrongFalsely : Prop := fnPrintAgreesWithPrintBytesRow.holds Try.pinned (OpenSpec.ofChange fnPrintAgreesWithPrintBytesWrong)

/-- 'n011_69.FnRestoreExprStartFlagsOrderFreeIdempotent': WHATEVER THE INPUT: true; the input reads as it did. -/
def fnRestoreExprStartFlagsOrderFreeIdempotentSpec : ChangeSpec := { name := "fnRestoreExprStartFlagsOrderFreeIdempotent", fn := fun _ => fun
  | [d1, d2, d3, d4, d5, d6, d7] => { results := [.lit (.bool true)], args := [d1, d2, d3, d4, d5, d6, d7] }
  | _ => none }
def fnRestoreExprStartFlagsOrderFreeIdempotentRow : OpenClaim := { program := "ytgoffcpchgepeaa", sum := "e068f8d57303606fc072fbdb61b30c450d9bea0210ac452bd99ac533dd6690b2", func := "github.com/evanw/esbuild/n011_69.FnRestoreExprStartFlagsOrderFreeIdempotent", spec := "fnRestoreExprStartFlagsOrderFreeIdempotent", plainKeys := false, apart := false }
def FnRestoreExprStartFlagsOrderFreeIdempotentSaid : Prop := fnRestoreExprStartFlagsOrderFreeIdempotentRow.holds Try.pinned (OpenSpec.ofChange fnRestoreExprStartFlagsOrderFreeIdempotentSpec)

/-- ITS FALSE NEIGHBOUR: 'it returns false'. Refute it at one input. -/
def fnRestoreExprStartFlagsOrderFreeIdempotentWrong : ChangeSpec := { name := "fnRestoreExprStartFlagsOrderFreeIdempotent", fn := fun _ => fun
  | [d1, d2, d3, d4, d5, d6, d7] => { results := [.lit (.bool false)], args := [d1, d2, d3, d4, d5, d6, d7] }
  | _ => none }
def FnRestoreExprStartFlagsOrderFreeIdempotentWrongFalsely : Prop := fnRestoreExprStartFlagsOrderFreeIdempotentRow.holds Try.pinned (OpenSpec.ofChange fnRestoreExprStartFlagsOrderFreeIdempotentWrong)

/-- 'n011_265.FnNewlinePastLineLimitRestartsLine': WHATEVER THE INPUT: true; the input reads as it did. -/
def fnNewlinePastLineLimitRestartsLineSpec : ChangeSpec := { name := "fnNewlinePastLineLimitRestartsLine", fn := fun _ => fun
  | [d1, d2, d3, d4] => { results := [.lit (.bool true)], args := [d1, d2, d3, d4] }
  | _ => none }
def fnNewlinePastLineLimitRestartsLineRow : OpenClaim := { program := "ytgoffcpchgepeaa", sum := "e068f8d57303606fc072fbdb61b30c450d9bea0210ac452bd99ac533dd6690b2", func := "github.com/evanw/esbuild/n011_265.FnNewlinePastLineLimitRestartsLine", spec := "fnNewlinePastLineLimitRestartsLine", plainKeys := false, apart := false }
def FnNewlinePastLineLimitRestartsLineSaid : Prop := fnNewlinePastLineLimitRestartsLineRow.holds Try.pinned (OpenSpec.ofChange fnNewlinePastLineLimitRestartsLineSpec)

/-- ITS FALSE NEIGHBOUR: 'it returns false'. Refute it at one input. -/
def fnNewlinePastLineLimitRestartsLineWrong : ChangeSpec := { name := "fnNewlinePastLineLimitRestartsLine", fn := fun _ => fun
  | [d1, d2, d3, d4] => { results := [.lit (.bool false)], args := [d1, d2, d3, d4] }
  | _ => none }
def FnNewlinePastLineLimitRestartsLineWrongFalsely : Prop := fnNewlinePastLineLimitRestartsLineRow.holds Try.pinned (OpenSpec.ofChange fnNewlinePastLineLimitRestartsLineWrong)

/-- 'n011_301.FnPrintIndentMonotoneInDepthWithinLineLimit': WHATEVER THE INPUT: true; the input reads as it did. -/
def fnPrintIndentMonotoneInDepthWithinLineLimitSpec : ChangeSpec := { name := "fnPrintIndentMonotoneInDepthWithinLineLimit", fn := fun _ => fun
  | [d1, d2, d3, d4, d5, d6] => { results := [.lit (.bool true)], args := [d1, d2, d3, d4, d5, d6] }
  | _ => none }
def fnPrintIndentMonotoneInDepthWithinLineLimitRow : OpenClaim := { program := "ytgoffcpchgepeaa", sum := "e068f8d57303606fc072fbdb61b30c450d9bea0210ac452bd99ac533dd6690b2", func := "github.com/evanw/esbuild/n011_301.FnPrintIndentMonotoneInDepthWithinLineLimit", spec := "fnPrintIndentMonotoneInDepthWithinLineLimit", plainKeys := false, apart := false }
def FnPrintIndentMonotoneInDepthWithinLineLimitSaid : Prop := fnPrintIndentMonotoneInDepthWithinLineLimitRow.holds Try.pinned (OpenSpec.ofChange fnPrintIndentMonotoneInDepthWithinLineLimitSpec)

/-- ITS FALSE NEIGHBOUR: 'it returns false'. Refute it at one input. -/
def fnPrintIndentMonotoneInDepthWithinLineLimitWrong : ChangeSpec := { name := "fnPrintIndentMonotoneInDepthWithinLineLimit", fn := fun _ => fun
  | [d1, d2, d3, d4, d5, d6] => { results := [.lit (.bool false)], args := [d1, d2, d3, d4, d5, d6] }
  | _ => none }
def FnPrintIndentMonotoneInDepthWithinLineLimitWrongFalsely : Prop := fnPrintIndentMonotoneInDepthWithinLineLimitRow.holds Try.pinned (OpenSpec.ofChange fnPrintIndentMonotoneInDepthWithinLineLimitWrong)

/-- 'n011_265.FnCurrentLineLengthIncremental': WHATEVER THE INPUT: true; the input reads as it did. -/
def fnCurrentLineLengthIncrementalSpec : ChangeSpec := { name := "fnCurrentLineLengthIncremental", fn := fun _ => fun
  | [d1, d2] => { results := [.lit (.bool true)], args := [d1, d2] }
  | _ => none }
def fnCurrentLineLengthIncrementalRow : OpenClaim := { program := "ytgoffcpchgepeaa", sum := "e068f8d57303606fc072fbdb61b30c450d9bea0210ac452bd99ac533dd6690b2", func := "github.com/evanw/esbuild/n011_265.FnCurrentLineLengthIncremental", spec := "fnCurrentLineLengthIncremental", plainKeys := false, apart := false }
def FnCurrentLineLengthIncrementalSaid : Prop := fnCurrentLineLengthIncrementalRow.holds Try.pinned (OpenSpec.ofChange fnCurrentLineLengthIncrementalSpec)

/-- ITS FALSE NEIGHBOUR: 'it returns false'. Refute it at one input. -/
def fnCurrentLineLengthIncrementalWrong : ChangeSpec := { name := "fnCurrentLineLengthIncremental", fn := fun _ => fun
  | [d1, d2] => { results := [.lit (.bool false)], args := [d1, d2] }
  | _ => none }
def FnCurrentLineLengthIncrementalWrongFalsely : Prop := fnCurrentLineLengthIncrementalRow.holds Try.pinned (OpenSpec.ofChange fnCurrentLineLengthIncrementalWrong)

/-- 'n011_88.FnSmallIntToBytesRoundTrip': WHATEVER THE INPUT: true; the input reads as it did. -/
def fnSmallIntToBytesRoundTripSpec : ChangeSpec := { name := "fnSmallIntToBytesRoundTrip", fn := fun _ => fun
  | [d1, d2] => { results := [.lit (.bool true)], args := [d1, d2] }
  | _ => none }
def fnSmallIntToBytesRoundTripRow : OpenClaim := { program := "ytgoffcpchgepeaa", sum := "e068f8d57303606fc072fbdb61b30c450d9bea0210ac452bd99ac533dd6690b2", func := "github.com/evanw/esbuild/n011_88.FnSmallIntToBytesRoundTrip", spec := "fnSmallIntToBytesRoundTrip", plainKeys := false, apart := false }
def FnSmallIntToBytesRoundTripSaid : Prop := fnSmallIntToBytesRoundTripRow.holds Try.pinned (OpenSpec.ofChange fnSmallIntToBytesRoundTripSpec)

/-- ITS FALSE NEIGHBOUR: 'it returns false'. Refute it at one input. -/
def fnSmallIntToBytesRoundTripWrong : ChangeSpec := { name := "fnSmallIntToBytesRoundTrip", fn := fun _ => fun
  | [d1, d2] => { results := [.lit (.bool false)], args := [d1, d2] }
  | _ => none }
def FnSmallIntToBytesRoundTripWrongFalsely : Prop := fnSmallIntToBytesRoundTripRow.holds Try.pinned (OpenSpec.ofChange fnSmallIntToBytesRoundTripWrong)

/-- 'n011_69.FnSaveRestoreCarriesStartsAcrossText': WHATEVER THE INPUT: true; the input reads as it did. -/
def fnSaveRestoreCarriesStartsAcrossTextSpec : ChangeSpec := { name := "fnSaveRestoreCarriesStartsAcrossText", fn := fun _ => fun
  | [d1, d2, d3, d4, d5, d6] => { results := [.lit (.bool true)], args := [d1, d2, d3, d4, d5, d6] }
  | _ => none }
def fnSaveRestoreCarriesStartsAcrossTextRow : OpenClaim := { program := "ytgoffcpchgepeaa", sum := "e068f8d57303606fc072fbdb61b30c450d9bea0210ac452bd99ac533dd6690b2", func := "github.com/evanw/esbuild/n011_69.FnSaveRestoreCarriesStartsAcrossText", spec := "fnSaveRestoreCarriesStartsAcrossText", plainKeys := false, apart := false }
def FnSaveRestoreCarriesStartsAcrossTextSaid : Prop := fnSaveRestoreCarriesStartsAcrossTextRow.holds Try.pinned (OpenSpec.ofChange fnSaveRestoreCarriesStartsAcrossTextSpec)

/-- ITS FALSE NEIGHBOUR: 'it returns false'. Refute it at one input. -/
def fnSaveRestoreCarriesStartsAcrossTextWrong : ChangeSpec := { name := "fnSaveRestoreCarriesStartsAcrossText", fn := fun _ => fun
  | [d1, d2, d3, d4, d5, d6] => { results := [.lit (.bool false)], args := [d1, d2, d3, d4, d5, d6] }
  | _ => none }
def FnSaveRestoreCarriesStartsAcrossTextWrongFalsely : Prop := fnSaveRestoreCarriesStartsAcrossTextRow.holds Try.pinned (OpenSpec.ofChange fnSaveRestoreCarriesStartsAcrossTextWrong)

/-- 'n011_265.FnSemicolonScriptAgreesAcrossModes': WHATEVER THE INPUT: true; the input reads as it did. -/
def fnSemicolonScriptAgreesAcrossModesSpec : ChangeSpec := { name := "fnSemicolonScriptAgreesAcrossModes", fn := fun _ => fun
  | [d1, d2] => { results := [.lit (.bool true)], args := [d1, d2] }
  | _ => none }
def fnSemicolonScriptAgreesAcrossModesRow : OpenClaim := { program := "ytgoffcpchgepeaa", sum := "e068f8d57303606fc072fbdb61b30c450d9bea0210ac452bd99ac533dd6690b2", func := "github.com/evanw/esbuild/n011_265.FnSemicolonScriptAgreesAcrossModes", spec := "fnSemicolonScriptAgreesAcrossModes", plainKeys := false, apart := false }
def FnSemicolonScriptAgreesAcrossModesSaid : Prop := fnSemicolonScriptAgreesAcrossModesRow.holds Try.pinned (OpenSpec.ofChange fnSemicolonScriptAgreesAcrossModesSpec)

/-- ITS FALSE NEIGHBOUR: 'it returns false'. Refute it at one input. -/
def fnSemicolonScriptAgreesAcrossModesWrong : ChangeSpec := { name := "fnSemicolonScriptAgreesAcrossModes", fn := fun _ => fun
  | [d1, d2] => { results := [.lit (.bool false)], args := [d1, d2] }
  | _ => none }
def FnSemicolonScriptAgreesAcrossModesWrongFalsely : Prop := fnSemicolonScriptAgreesAcrossModesRow.holds Try.pinned (OpenSpec.ofChange fnSemicolonScriptAgreesAcrossModesWrong)

/-- 'n011_220.FnDotThenPairRestoresIndentAndBalances': WHATEVER THE INPUT: true; the input reads as it did. -/
def fnDotThenPairRestoresIndentAndBalancesSpec : ChangeSpec := { name := "fnDotThenPairRestoresIndentAndBalances", fn := fun _ => fun
  | [d1, d2, d3, d4, d5] => { results := [.lit (.bool true)], args := [d1, d2, d3, d4, d5] }
  | _ => none }
def fnDotThenPairRestoresIndentAndBalancesRow : OpenClaim := { program := "ytgoffcpchgepeaa", sum := "e068f8d57303606fc072fbdb61b30c450d9bea0210ac452bd99ac533dd6690b2", func := "github.com/evanw/esbuild/n011_220.FnDotThenPairRestoresIndentAndBalances", spec := "fnDotThenPairRestoresIndentAndBalances", plainKeys := false, apart := false }
def FnDotThenPairRestoresIndentAndBalancesSaid : Prop := fnDotThenPairRestoresIndentAndBalancesRow.holds Try.pinned (OpenSpec.ofChange fnDotThenPairRestoresIndentAndBalancesSpec)

/-- ITS FALSE NEIGHBOUR: 'it returns false'. Refute it at one input. -/
def fnDotThenPairRestoresIndentAndBalancesWrong : ChangeSpec := { name := "fnDotThenPairRestoresIndentAndBalances", fn := fun _ => fun
  | [d1, d2, d3, d4, d5] => { results := [.lit (.bool false)], args := [d1, d2, d3, d4, d5] }
  | _ => none }
def FnDotThenPairRestoresIndentAndBalancesWrongFalsely : Prop := fnDotThenPairRestoresIndentAndBalancesRow.holds Try.pinned (OpenSpec.ofChange fnDotThenPairRestoresIndentAndBalancesWrong)

/- THE SECOND FORM. 'bulk': how many values and letters a reading holds, each counted each time it is reached (what is shared counts as often as it is met; a slice's spare places count too). A statement '..UptoSaid' is the law's where the arguments, and the package variables that the reading takes, are together of bulk at most 1048576: NARROWER than '..Said'. Prove '..Said' where nothing that the law and all that it calls make is longer than what came in: it says more and counts as full. Else prove '..UptoSaid'. A law counts once. -/
mutual
def uptoBulk {H : Type} : DataW H → Nat
  | .lit (.string bytes) => bytes.length + 1
  | .lit _ => 1
  | .nil => 1
  | .ptr d => uptoBulk d + 1
  | .slice elems spare => uptoBulkAll elems + uptoBulkAll spare + 1
  | .agg parts => uptoBulkAll parts + 1
  | .iface _ d => uptoBulk d + 1
  | .map entries => uptoBulkEntries entries + 1
  | .held _ => 1
def uptoBulkAll {H : Type} : List (DataW H) → Nat
  | [] => 0
  | d :: r => uptoBulk d + uptoBulkAll r
def uptoBulkEntries {H : Type} : List (Lit × DataW H) → Nat
  | [] => 0
  | x :: r => uptoBulkEntry x + uptoBulkEntries r
def uptoBulkEntry {H : Type} : Lit × DataW H → Nat
  | (.string bytes, d) => bytes.length + uptoBulk d + 1
  | (_, d) => uptoBulk d + 1
 end
def uptoSmall : (H : Type) → List (DataW H) → Bool := fun _ ds => decide (uptoBulkAll ds ≤ 1048576)
def OpenSpec.upto (s : _root_.Go.ChangeSpec) : _root_.Go.OpenSpec := { _root_.Go.OpenSpec.ofChange s with cond := some uptoSmall }

/-- 'n011_80.FnSemicolonIfNeededIdempotent', WHERE WHAT IT READS IS OF BULK AT MOST 1048576: true; the input reads as it did. -/
def fnSemicolonIfNeededIdempotentUptoRow : OpenClaim := { program := "ytgoffcpchgepeaa", sum := "e068f8d57303606fc072fbdb61b30c450d9bea0210ac452bd99ac533dd6690b2", func := "github.com/evanw/esbuild/n011_80.FnSemicolonIfNeededIdempotent", spec := "fnSemicolonIfNeededIdempotent", plainKeys := false, apart := false, narrowed := true }
def FnSemicolonIfNeededIdempotentUptoSaid : Prop := fnSemicolonIfNeededIdempotentUptoRow.holds Try.pinned (OpenSpec.upto fnSemicolonIfNeededIdempotentSpec)

/-- 'n011_297.FnPrintAgreesWithPrintBytes', WHERE WHAT IT READS IS OF BULK AT MOST 1048576: true; the input reads as it did. -/
def fnPrintAgreesWithPrintBytesUptoRow : OpenClaim := { program := "ytgoffcpchgepeaa", sum := "e068f8d57303606fc072fbdb61b30c450d9bea0210ac452bd99ac533dd6690b2", func := "github.com/evanw/esbuild/n011_297.FnPrintAgreesWithPrintBytes", spec := "fnPrintAgreesWithPrintBytes", plainKeys := false, apart := false, narrowed := true }
def FnPrintAgreesWithPrintBytesUptoSaid : Prop := fnPrintAgreesWithPrintBytesUptoRow.holds Try.pinned (OpenSpec.upto fnPrintAgreesWithPrintBytesSpec)

/-- 'n011_69.FnRestoreExprStartFlagsOrderFreeIdempotent', WHERE WHAT IT READS IS OF BULK AT MOST 1048576: true; the input reads as it did. -/
def fnRestoreExprStartFlagsOrderFreeIdempotentUptoRow : OpenClaim := { program := "ytgoffcpchgepeaa", sum := "e068f8d57303606fc072fbdb61b30c450d9bea0210ac452bd99ac533dd6690b2", func := "github.com/evanw/esbuild/n011_69.FnRestoreExprStartFlagsOrderFreeIdempotent", spec := "fnRestoreExprStartFlagsOrderFreeIdempotent", plainKeys := false, apart := false, narrowed := true }
def FnRestoreExprStartFlagsOrderFreeIdempotentUptoSaid : Prop := fnRestoreExprStartFlagsOrderFreeIdempotentUptoRow.holds Try.pinned (OpenSpec.upto fnRestoreExprStartFlagsOrderFreeIdempotentSpec)

/-- 'n011_265.FnNewlinePastLineLimitRestartsLine', WHERE WHAT IT READS IS OF BULK AT MOST 1048576: true; the input reads as it did. -/
def fnNewlinePastLineLimitRestartsLineUptoRow : OpenClaim := { program := "ytgoffcpchgepeaa", sum := "e068f8d57303606fc072fbdb61b30c450d9bea0210ac452bd99ac533dd6690b2", func := "github.com/evanw/esbuild/n011_265.FnNewlinePastLineLimitRestartsLine", spec := "fnNewlinePastLineLimitRestartsLine", plainKeys := false, apart := false, narrowed := true }
def FnNewlinePastLineLimitRestartsLineUptoSaid : Prop := fnNewlinePastLineLimitRestartsLineUptoRow.holds Try.pinned (OpenSpec.upto fnNewlinePastLineLimitRestartsLineSpec)

/-- 'n011_301.FnPrintIndentMonotoneInDepthWithinLineLimit', WHERE WHAT IT READS IS OF BULK AT MOST 1048576: true; the input reads as it did. -/
def fnPrintIndentMonotoneInDepthWithinLineLimitUptoRow : OpenClaim := { program := "ytgoffcpchgepeaa", sum := "e068f8d57303606fc072fbdb61b30c450d9bea0210ac452bd99ac533dd6690b2", func := "github.com/evanw/esbuild/n011_301.FnPrintIndentMonotoneInDepthWithinLineLimit", spec := "fnPrintIndentMonotoneInDepthWithinLineLimit", plainKeys := false, apart := false, narrowed := true }
def FnPrintIndentMonotoneInDepthWithinLineLimitUptoSaid : Prop := fnPrintIndentMonotoneInDepthWithinLineLimitUptoRow.holds Try.pinned (OpenSpec.upto fnPrintIndentMonotoneInDepthWithinLineLimitSpec)

/-- 'n011_265.FnCurrentLineLengthIncremental', WHERE WHAT IT READS IS OF BULK AT MOST 1048576: true; the input reads as it did. -/
def fnCurrentLineLengthIncrementalUptoRow : OpenClaim := { program := "ytgoffcpchgepeaa", sum := "e068f8d57303606fc072fbdb61b30c450d9bea0210ac452bd99ac533dd6690b2", func := "github.com/evanw/esbuild/n011_265.FnCurrentLineLengthIncremental", spec := "fnCurrentLineLengthIncremental", plainKeys := false, apart := false, narrowed := true }
def FnCurrentLineLengthIncrementalUptoSaid : Prop := fnCurrentLineLengthIncrementalUptoRow.holds Try.pinned (OpenSpec.upto fnCurrentLineLengthIncrementalSpec)

/-- 'n011_88.FnSmallIntToBytesRoundTrip', WHERE WHAT IT READS IS OF BULK AT MOST 1048576: true; the input reads as it did. -/
def fnSmallIntToBytesRoundTripUptoRow : OpenClaim := { program := "ytgoffcpchgepeaa", sum := "e068f8d57303606fc072fbdb61b30c450d9bea0210ac452bd99ac533dd6690b2", func := "github.com/evanw/esbuild/n011_88.FnSmallIntToBytesRoundTrip", spec := "fnSmallIntToBytesRoundTrip", plainKeys := false, apart := false, narrowed := true }
def FnSmallIntToBytesRoundTripUptoSaid : Prop := fnSmallIntToBytesRoundTripUptoRow.holds Try.pinned (OpenSpec.upto fnSmallIntToBytesRoundTripSpec)

/-- 'n011_69.FnSaveRestoreCarriesStartsAcrossText', WHERE WHAT IT READS IS OF BULK AT MOST 1048576: true; the input reads as it did. -/
def fnSaveRestoreCarriesStartsAcrossTextUptoRow : OpenClaim := { program := "ytgoffcpchgepeaa", sum := "e068f8d57303606fc072fbdb61b30c450d9bea0210ac452bd99ac533dd6690b2", func := "github.com/evanw/esbuild/n011_69.FnSaveRestoreCarriesStartsAcrossText", spec := "fnSaveRestoreCarriesStartsAcrossText", plainKeys := false, apart := false, narrowed := true }
def FnSaveRestoreCarriesStartsAcrossTextUptoSaid : Prop := fnSaveRestoreCarriesStartsAcrossTextUptoRow.holds Try.pinned (OpenSpec.upto fnSaveRestoreCarriesStartsAcrossTextSpec)

/-- 'n011_265.FnSemicolonScriptAgreesAcrossModes', WHERE WHAT IT READS IS OF BULK AT MOST 1048576: true; the input reads as it did. -/
def fnSemicolonScriptAgreesAcrossModesUptoRow : OpenClaim := { program := "ytgoffcpchgepeaa", sum := "e068f8d57303606fc072fbdb61b30c450d9bea0210ac452bd99ac533dd6690b2", func := "github.com/evanw/esbuild/n011_265.FnSemicolonScriptAgreesAcrossModes", spec := "fnSemicolonScriptAgreesAcrossModes", plainKeys := false, apart := false, narrowed := true }
def FnSemicolonScriptAgreesAcrossModesUptoSaid : Prop := fnSemicolonScriptAgreesAcrossModesUptoRow.holds Try.pinned (OpenSpec.upto fnSemicolonScriptAgreesAcrossModesSpec)

/-- 'n011_220.FnDotThenPairRestoresIndentAndBalances', WHERE WHAT IT READS IS OF BULK AT MOST 1048576: true; the input reads as it did. -/
def fnDotThenPairRestoresIndentAndBalancesUptoRow : OpenClaim := { program := "ytgoffcpchgepeaa", sum := "e068f8d57303606fc072fbdb61b30c450d9bea0210ac452bd99ac533dd6690b2", func := "github.com/evanw/esbuild/n011_220.FnDotThenPairRestoresIndentAndBalances", spec := "fnDotThenPairRestoresIndentAndBalances", plainKeys := false, apart := false, narrowed := true }
def FnDotThenPairRestoresIndentAndBalancesUptoSaid : Prop := fnDotThenPairRestoresIndentAndBalancesUptoRow.holds Try.pinned (OpenSpec.upto fnDotThenPairRestoresIndentAndBalancesSpec)

end Rows
end Go.Proofs.Ytgoffcpchgepeaa
