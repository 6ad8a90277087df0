/-
  No cell of these rows narrows 'for every input' (looked for: loops, veiled, ifaces, maps, wideKeys, modest, calm, conditions, laid).
  DERIVED. THE GIVEN ROWS OF THIS SEAT. 2 by the template 'for every input the law returns true; each argument reads behind the call as it read before'; 0 by the template 'total and deterministic' (their statements: YtdpljbhbnlcoaaaTotals.lean).
  GIVEN WITH THE SEED: the statements are not yours to turn. If you find one false, say at which input.
  Laid BY PROGRAM, IN A SANDBOX (cutbox-rows.mjs): the forced cells as the released guide's own fill.sh prints them over the translation ff58cc9c3e9448d0… (all of the seat's roots in one cut). By AI agents, Wed Nov 11 2026. No macro, syntax, notation, axiom, sorry.
-/
import Derived.Test.YtdpljbhbnlcoaaaChecked
import GoSem.Claim
import GoSem.ClaimJoined
import GoSem.ClaimMapViews
import Derived.JoinedTies
import Derived.KernelRfl
namespace Go.Proofs.Ytdpljbhbnlcoaaa
/- THE CELL 'sum', in the pinned program and in every row, IS THE sha256 OF THE DUMP (.gsa) THAT YtdpljbhbnlcoaaaProg.lean LOADS. Nothing in Lean hashes anything: it is a label: what it is worth is what the hold of that sum in a sandbox is worth. -/
noncomputable def Try.pinned : Pinned := { name := "ytdpljbhbnlcoaaa", sum := "ff58cc9c3e9448d073c8acf247700df012175074a26faaa700e46dfc3c72020f", checked := Try.checked }
namespace Rows
def none {H : Type} : Left H := { results := [], args := [] }

/-- 'n011_297.FnPrintAgreesWithPrintBytes': WHATEVER THE INPUT: true; the input reads as it did. -/
def fnPrintAgreesWithPrintBytesSpec : ChangeSpec := { name := "fnPrintAgreesWithPrintBytes", fn := fun _ => fun
  | [d1, d2, d3] => { results := [.lit (.bool true)], args := [d1, d2, d3] }
  | _ => none }
def fnPrintAgreesWithPrintBytesRow : OpenClaim := { program := "ytdpljbhbnlcoaaa", sum := "ff58cc9c3e9448d073c8acf247700df012175074a26faaa700e46dfc3c72020f", func := "github.com/evanw/esbuild/n011_297.FnPrintAgreesWithPrintBytes", spec := "fnPrintAgreesWithPrintBytes", plainKeys := false, apart := false }
def FnPrintAgreesWithPrintBytesSaid : Prop := fnPrintAgreesWithPrintBytesRow.holds Try.pinned (OpenSpec.ofChange fnPrintAgreesWithPrintBytesSpec)

/-- ITS FALSE NEIGHBOUR: 'it returns false'. Refute it at one input. -/
def fnPrintAgreesWithPrintBytesWrong : ChangeSpec := { name := "fnPrintAgreesWithPrintBytes", fn := fun _ => fun
  | [d1, d2, d3] => { results := [.lit (.bool false)], args := [d1, d2, d3] }
  | _ => none }
def FnPrintAgreesWithPrintBytesWrongFalsely : Prop := fnPrintAgreesWithPrintBytesRow.holds Try.pinned (OpenSpec.ofChange fnPrintAgreesWithPrintBytesWrong)

/-- 'n011_220.FnDotThenPairRestoresIndentAndBalances': WHATEVER THE INPUT: true; the input reads as it did. -/
def fnDotThenPairRestoresIndentAndBalancesSpec : ChangeSpec := { name := "fnDotThenPairRestoresIndentAndBalances", fn := fun _ => fun
  | [d1, d2, d3, d4, d5] => { results := [.lit (.bool true)], args := [d1, d2, d3, d4, d5] }
  | _ => none }
def fnDotThenPairRestoresIndentAndBalancesRow : OpenClaim := { program := "ytdpljbhbnlcoaaa", sum := "ff58cc9c3e9448d073c8acf247700df012175074a26faaa700e46dfc3c72020f", func := "github.com/evanw/esbuild/n011_220.FnDotThenPairRestoresIndentAndBalances", spec := "fnDotThenPairRestoresIndentAndBalances", plainKeys := false, apart := false }
def FnDotThenPairRestoresIndentAndBalancesSaid : Prop := fnDotThenPairRestoresIndentAndBalancesRow.holds Try.pinned (OpenSpec.ofChange fnDotThenPairRestoresIndentAndBalancesSpec)

/-- ITS FALSE NEIGHBOUR: 'it returns false'. Refute it at one input. -/
def fnDotThenPairRestoresIndentAndBalancesWrong : ChangeSpec := { name := "fnDotThenPairRestoresIndentAndBalances", fn := fun _ => fun
  | [d1, d2, d3, d4, d5] => { results := [.lit (.bool false)], args := [d1, d2, d3, d4, d5] }
  | _ => none }
def FnDotThenPairRestoresIndentAndBalancesWrongFalsely : Prop := fnDotThenPairRestoresIndentAndBalancesRow.holds Try.pinned (OpenSpec.ofChange fnDotThenPairRestoresIndentAndBalancesWrong)

/- THE SECOND FORM. 'bulk': how many values and letters a reading holds, each counted each time it is reached (what is shared counts as often as it is met; a slice's spare places count too). A statement '..UptoSaid' is the law's where the arguments, and the package variables that the reading takes, are together of bulk at most 1048576: NARROWER than '..Said'. Prove '..Said' where nothing that the law and all that it calls make is longer than what came in: it says more and counts as full. Else prove '..UptoSaid'. A law counts once. -/
mutual
def uptoBulk {H : Type} : DataW H → Nat
  | .lit (.string bytes) => bytes.length + 1
  | .lit _ => 1
  | .nil => 1
  | .ptr d => uptoBulk d + 1
  | .slice elems spare => uptoBulkAll elems + uptoBulkAll spare + 1
  | .agg parts => uptoBulkAll parts + 1
  | .iface _ d => uptoBulk d + 1
  | .map entries => uptoBulkEntries entries + 1
  | .held _ => 1
def uptoBulkAll {H : Type} : List (DataW H) → Nat
  | [] => 0
  | d :: r => uptoBulk d + uptoBulkAll r
def uptoBulkEntries {H : Type} : List (Lit × DataW H) → Nat
  | [] => 0
  | x :: r => uptoBulkEntry x + uptoBulkEntries r
def uptoBulkEntry {H : Type} : Lit × DataW H → Nat
  | (.string bytes, d) => bytes.length + uptoBulk d + 1
  | (_, d) => uptoBulk d + 1
 end
def uptoSmall : (H : Type) → List (DataW H) → Bool := fun _ ds => decide (uptoBulkAll ds ≤ 1048576)
def OpenSpec.upto (s : _root_.Go.ChangeSpec) : _root_.Go.OpenSpec := { _root_.Go.OpenSpec.ofChange s with cond := some uptoSmall }

/-- 'n011_297.FnPrintAgreesWithPrintBytes', WHERE WHAT IT READS IS OF BULK AT MOST 1048576: true; the input reads as it did. -/
def fnPrintAgreesWithPrintBytesUptoRow : OpenClaim := { program := "ytdpljbhbnlcoaaa", sum := "ff58cc9c3e9448d073c8acf247700df012175074a26faaa700e46dfc3c72020f", func := "github.com/evanw/esbuild/n011_297.FnPrintAgreesWithPrintBytes", spec := "fnPrintAgreesWithPrintBytes", plainKeys := false, apart := false, narrowed := true }
def FnPrintAgreesWithPrintBytesUptoSaid : Prop := fnPrintAgreesWithPrintBytesUptoRow.holds Try.pinned (OpenSpec.upto fnPrintAgreesWithPrintBytesSpec)

/-- 'n011_220.FnDotThenPairRestoresIndentAndBalances', WHERE WHAT IT READS IS OF BULK AT MOST 1048576: true; the input reads as it did. -/
def fnDotThenPairRestoresIndentAndBalancesUptoRow : OpenClaim := { program := "ytdpljbhbnlcoaaa", sum := "ff58cc9c3e9448d073c8acf247700df012175074a26faaa700e46dfc3c72020f", func := "github.com/evanw/esbuild/n011_220.FnDotThenPairRestoresIndentAndBalances", spec := "fnDotThenPairRestoresIndentAndBalances", plainKeys := false, apart := false, narrowed := true }
def FnDotThenPairRestoresIndentAndBalancesUptoSaid : Prop := fnDotThenPairRestoresIndentAndBalancesUptoRow.holds Try.pinned (OpenSpec.upto fnDotThenPairRestoresIndentAndBalancesSpec)

end Rows
end Go.Proofs.Ytdpljbhbnlcoaaa
