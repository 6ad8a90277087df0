/-
  No cell of these rows narrows 'for every input' (looked for: loops, veiled, ifaces, maps, wideKeys, modest, calm, conditions, laid).
  DERIVED. THE GIVEN ROWS OF THIS SEAT. 6 by the template 'for every input the law returns true; each argument reads behind the call as it read before'; 0 by the template 'total and deterministic' (their statements: YtmpiepanajhfdaaTotals.lean).
  GIVEN WITH THE SEED: the statements are not yours to turn. If you find one false, say at which input.
  Laid BY PROGRAM, IN A SANDBOX (cutbox-rows.mjs): the forced cells as the released guide's own fill.sh prints them over the translation 38417fe812950ada… (all of the seat's roots in one cut). By AI agents, Wed Nov 11 2026. No macro, syntax, notation, axiom, sorry.
-/
import Derived.Test.YtmpiepanajhfdaaChecked
import GoSem.Claim
import GoSem.ClaimJoined
import GoSem.ClaimMapViews
import Derived.JoinedTies
import Derived.KernelRfl
namespace Go.Proofs.Ytmpiepanajhfdaa
/- THE CELL 'sum', in the pinned program and in every row, IS THE sha256 OF THE DUMP (.gsa) THAT YtmpiepanajhfdaaProg.lean LOADS. Nothing in Lean hashes anything: it is a label: what it is worth is what the hold of that sum in a sandbox is worth. -/
noncomputable def Try.pinned : Pinned := { name := "ytmpiepanajhfdaa", sum := "38417fe812950ada7778fcaa99d0b113795b51cb6fc59a92ea642a45161195ad", checked := Try.checked }
namespace Rows
def none {H : Type} : Left H := { results := [], args := [] }

/-- 'n011_67.FnNumberToMinifiedNameDecodesBack': WHATEVER THE INPUT: true; the input reads as it did. -/
def fnNumberToMinifiedNameDecodesBackSpec : ChangeSpec := { name := "fnNumberToMinifiedNameDecodesBack", fn := fun _ => fun
  | [d] => { results := [.lit (.bool true)], args := [d] }
  | _ => none }
def fnNumberToMinifiedNameDecodesBackRow : OpenClaim := { program := "ytmpiepanajhfdaa", sum := "38417fe812950ada7778fcaa99d0b113795b51cb6fc59a92ea642a45161195ad", func := "github.com/evanw/esbuild/n011_67.FnNumberToMinifiedNameDecodesBack", spec := "fnNumberToMinifiedNameDecodesBack", inPlace := ["internal/abi.NoEscape"], apart := false }
def FnNumberToMinifiedNameDecodesBackSaid : Prop := fnNumberToMinifiedNameDecodesBackRow.holds Try.pinned (OpenSpec.ofChange fnNumberToMinifiedNameDecodesBackSpec)

/-- ITS FALSE NEIGHBOUR: 'it returns false'. Refute it at one input. -/
def fnNumberToMinifiedNameDecodesBackWrong : ChangeSpec := { name := "fnNumberToMinifiedNameDecodesBack", fn := fun _ => fun
  | [d] => { results := [.lit (.bool false)], args := [d] }
  | _ => none }
def FnNumberToMinifiedNameDecodesBackWrongFalsely : Prop := fnNumberToMinifiedNameDecodesBackRow.holds Try.pinned (OpenSpec.ofChange fnNumberToMinifiedNameDecodesBackWrong)

/-- 'n011_67.FnNumberToMinifiedNameShortestLength': WHATEVER THE INPUT: true; the input reads as it did. -/
def fnNumberToMinifiedNameShortestLengthSpec : ChangeSpec := { name := "fnNumberToMinifiedNameShortestLength", fn := fun _ => fun
  | [d] => { results := [.lit (.bool true)], args := [d] }
  | _ => none }
def fnNumberToMinifiedNameShortestLengthRow : OpenClaim := { program := "ytmpiepanajhfdaa", sum := "38417fe812950ada7778fcaa99d0b113795b51cb6fc59a92ea642a45161195ad", func := "github.com/evanw/esbuild/n011_67.FnNumberToMinifiedNameShortestLength", spec := "fnNumberToMinifiedNameShortestLength", inPlace := ["internal/abi.NoEscape"], apart := false }
def FnNumberToMinifiedNameShortestLengthSaid : Prop := fnNumberToMinifiedNameShortestLengthRow.holds Try.pinned (OpenSpec.ofChange fnNumberToMinifiedNameShortestLengthSpec)

/-- ITS FALSE NEIGHBOUR: 'it returns false'. Refute it at one input. -/
def fnNumberToMinifiedNameShortestLengthWrong : ChangeSpec := { name := "fnNumberToMinifiedNameShortestLength", fn := fun _ => fun
  | [d] => { results := [.lit (.bool false)], args := [d] }
  | _ => none }
def FnNumberToMinifiedNameShortestLengthWrongFalsely : Prop := fnNumberToMinifiedNameShortestLengthRow.holds Try.pinned (OpenSpec.ofChange fnNumberToMinifiedNameShortestLengthWrong)

/-- 'n011_139.FnRedundantPrefixAcceptedLongerRefused': WHATEVER THE INPUT: true; the input reads as it did. -/
def fnRedundantPrefixAcceptedLongerRefusedSpec : ChangeSpec := { name := "fnRedundantPrefixAcceptedLongerRefused", fn := fun _ => fun
  | [d1, d2, d3] => { results := [.lit (.bool true)], args := [d1, d2, d3] }
  | _ => none }
def fnRedundantPrefixAcceptedLongerRefusedRow : OpenClaim := { program := "ytmpiepanajhfdaa", sum := "38417fe812950ada7778fcaa99d0b113795b51cb6fc59a92ea642a45161195ad", func := "github.com/evanw/esbuild/n011_139.FnRedundantPrefixAcceptedLongerRefused", spec := "fnRedundantPrefixAcceptedLongerRefused", unfollowed := true, recurses := true, apart := false }
def FnRedundantPrefixAcceptedLongerRefusedSaid : Prop := fnRedundantPrefixAcceptedLongerRefusedRow.holds Try.pinned (OpenSpec.ofChange fnRedundantPrefixAcceptedLongerRefusedSpec)

/-- ITS FALSE NEIGHBOUR: 'it returns false'. Refute it at one input. -/
def fnRedundantPrefixAcceptedLongerRefusedWrong : ChangeSpec := { name := "fnRedundantPrefixAcceptedLongerRefused", fn := fun _ => fun
  | [d1, d2, d3] => { results := [.lit (.bool false)], args := [d1, d2, d3] }
  | _ => none }
def FnRedundantPrefixAcceptedLongerRefusedWrongFalsely : Prop := fnRedundantPrefixAcceptedLongerRefusedRow.holds Try.pinned (OpenSpec.ofChange fnRedundantPrefixAcceptedLongerRefusedWrong)

/-- 'n011_61.FnCCIALessIsStrictOrder': WHATEVER THE INPUT: true; the input reads as it did. -/
def fnCCIALessIsStrictOrderSpec : ChangeSpec := { name := "fnCCIALessIsStrictOrder", fn := fun _ => fun
  | [d1, d2, d3, d4] => { results := [.lit (.bool true)], args := [d1, d2, d3, d4] }
  | _ => none }
def fnCCIALessIsStrictOrderRow : OpenClaim := { program := "ytmpiepanajhfdaa", sum := "38417fe812950ada7778fcaa99d0b113795b51cb6fc59a92ea642a45161195ad", func := "github.com/evanw/esbuild/n011_61.FnCCIALessIsStrictOrder", spec := "fnCCIALessIsStrictOrder", apart := false }
def FnCCIALessIsStrictOrderSaid : Prop := fnCCIALessIsStrictOrderRow.holds Try.pinned (OpenSpec.ofChange fnCCIALessIsStrictOrderSpec)

/-- ITS FALSE NEIGHBOUR: 'it returns false'. Refute it at one input. -/
def fnCCIALessIsStrictOrderWrong : ChangeSpec := { name := "fnCCIALessIsStrictOrder", fn := fun _ => fun
  | [d1, d2, d3, d4] => { results := [.lit (.bool false)], args := [d1, d2, d3, d4] }
  | _ => none }
def FnCCIALessIsStrictOrderWrongFalsely : Prop := fnCCIALessIsStrictOrderRow.holds Try.pinned (OpenSpec.ofChange fnCCIALessIsStrictOrderWrong)

/-- 'n011_61.FnCCIALessSortsByChunkIndex': WHATEVER THE INPUT: true; the input reads as it did. -/
def fnCCIALessSortsByChunkIndexSpec : ChangeSpec := { name := "fnCCIALessSortsByChunkIndex", fn := fun _ => fun
  | [d] => { results := [.lit (.bool true)], args := [d] }
  | _ => none }
def fnCCIALessSortsByChunkIndexRow : OpenClaim := { program := "ytmpiepanajhfdaa", sum := "38417fe812950ada7778fcaa99d0b113795b51cb6fc59a92ea642a45161195ad", func := "github.com/evanw/esbuild/n011_61.FnCCIALessSortsByChunkIndex", spec := "fnCCIALessSortsByChunkIndex", apart := false }
def FnCCIALessSortsByChunkIndexSaid : Prop := fnCCIALessSortsByChunkIndexRow.holds Try.pinned (OpenSpec.ofChange fnCCIALessSortsByChunkIndexSpec)

/-- ITS FALSE NEIGHBOUR: 'it returns false'. Refute it at one input. -/
def fnCCIALessSortsByChunkIndexWrong : ChangeSpec := { name := "fnCCIALessSortsByChunkIndex", fn := fun _ => fun
  | [d] => { results := [.lit (.bool false)], args := [d] }
  | _ => none }
def FnCCIALessSortsByChunkIndexWrongFalsely : Prop := fnCCIALessSortsByChunkIndexRow.holds Try.pinned (OpenSpec.ofChange fnCCIALessSortsByChunkIndexWrong)

/-- 'n011_63.FnSwapScriptIsPermutationUndoneInReverse': WHATEVER THE INPUT: true; the input reads as it did. -/
def fnSwapScriptIsPermutationUndoneInReverseSpec : ChangeSpec := { name := "fnSwapScriptIsPermutationUndoneInReverse", fn := fun _ => fun
  | [d1, d2] => { results := [.lit (.bool true)], args := [d1, d2] }
  | _ => none }
def fnSwapScriptIsPermutationUndoneInReverseRow : OpenClaim := { program := "ytmpiepanajhfdaa", sum := "38417fe812950ada7778fcaa99d0b113795b51cb6fc59a92ea642a45161195ad", func := "github.com/evanw/esbuild/n011_63.FnSwapScriptIsPermutationUndoneInReverse", spec := "fnSwapScriptIsPermutationUndoneInReverse", apart := false }
def FnSwapScriptIsPermutationUndoneInReverseSaid : Prop := fnSwapScriptIsPermutationUndoneInReverseRow.holds Try.pinned (OpenSpec.ofChange fnSwapScriptIsPermutationUndoneInReverseSpec)

/-- ITS FALSE NEIGHBOUR: 'it returns false'. Refute it at one input. -/
def fnSwapScriptIsPermutationUndoneInReverseWrong : ChangeSpec := { name := "fnSwapScriptIsPermutationUndoneInReverse", fn := fun _ => fun
  | [d1, d2] => { results := [.lit (.bool false)], args := [d1, d2] }
  | _ => none }
def FnSwapScriptIsPermutationUndoneInReverseWrongFalsely : Prop := fnSwapScriptIsPermutationUndoneInReverseRow.holds Try.pinned (OpenSpec.ofChange fnSwapScriptIsPermutationUndoneInReverseWrong)

/- THE SECOND FORM. 'bulk': how many values and letters a reading holds, each counted each time it is reached (what is shared counts as often as it is met; a slice's spare places count too). A statement '..UptoSaid' is the law's where the arguments, and the package variables that the reading takes, are together of bulk at most 1048576: NARROWER than '..Said'. Prove '..Said' where nothing that the law and all that it calls make is longer than what came in: it says more and counts as full. Else prove '..UptoSaid'. A law counts once. -/
mutual
def uptoBulk {H : Type} : DataW H → Nat
  | .lit (.string bytes) => bytes.length + 1
  | .lit _ => 1
  | .nil => 1
  | .ptr d => uptoBulk d + 1
  | .slice elems spare => uptoBulkAll elems + uptoBulkAll spare + 1
  | .agg parts => uptoBulkAll parts + 1
  | .iface _ d => uptoBulk d + 1
  | .map entries => uptoBulkEntries entries + 1
  | .held _ => 1
def uptoBulkAll {H : Type} : List (DataW H) → Nat
  | [] => 0
  | d :: r => uptoBulk d + uptoBulkAll r
def uptoBulkEntries {H : Type} : List (Lit × DataW H) → Nat
  | [] => 0
  | x :: r => uptoBulkEntry x + uptoBulkEntries r
def uptoBulkEntry {H : Type} : Lit × DataW H → Nat
  | (.string bytes, d) => bytes.length + uptoBulk d + 1
  | (_, d) => uptoBulk d + 1
 end
def uptoSmall : (H : Type) → List (DataW H) → Bool := fun _ ds => decide (uptoBulkAll ds ≤ 1048576)
def OpenSpec.upto (s : _root_.Go.ChangeSpec) : _root_.Go.OpenSpec := { _root_.Go.OpenSpec.ofChange s with cond := some uptoSmall }

/-- 'n011_67.FnNumberToMinifiedNameDecodesBack', WHERE WHAT IT READS IS OF BULK AT MOST 1048576: true; the input reads as it did. -/
def fnNumberToMinifiedNameDecodesBackUptoRow : OpenClaim := { program := "ytmpiepanajhfdaa", sum := "38417fe812950ada7778fcaa99d0b113795b51cb6fc59a92ea642a45161195ad", func := "github.com/evanw/esbuild/n011_67.FnNumberToMinifiedNameDecodesBack", spec := "fnNumberToMinifiedNameDecodesBack", inPlace := ["internal/abi.NoEscape"], apart := false, narrowed := true }
def FnNumberToMinifiedNameDecodesBackUptoSaid : Prop := fnNumberToMinifiedNameDecodesBackUptoRow.holds Try.pinned (OpenSpec.upto fnNumberToMinifiedNameDecodesBackSpec)

/-- 'n011_67.FnNumberToMinifiedNameShortestLength', WHERE WHAT IT READS IS OF BULK AT MOST 1048576: true; the input reads as it did. -/
def fnNumberToMinifiedNameShortestLengthUptoRow : OpenClaim := { program := "ytmpiepanajhfdaa", sum := "38417fe812950ada7778fcaa99d0b113795b51cb6fc59a92ea642a45161195ad", func := "github.com/evanw/esbuild/n011_67.FnNumberToMinifiedNameShortestLength", spec := "fnNumberToMinifiedNameShortestLength", inPlace := ["internal/abi.NoEscape"], apart := false, narrowed := true }
def FnNumberToMinifiedNameShortestLengthUptoSaid : Prop := fnNumberToMinifiedNameShortestLengthUptoRow.holds Try.pinned (OpenSpec.upto fnNumberToMinifiedNameShortestLengthSpec)

/-- 'n011_139.FnRedundantPrefixAcceptedLongerRefused', WHERE WHAT IT READS IS OF BULK AT MOST 1048576: true; the input reads as it did. -/
def fnRedundantPrefixAcceptedLongerRefusedUptoRow : OpenClaim := { program := "ytmpiepanajhfdaa", sum := "38417fe812950ada7778fcaa99d0b113795b51cb6fc59a92ea642a45161195ad", func := "github.com/evanw/esbuild/n011_139.FnRedundantPrefixAcceptedLongerRefused", spec := "fnRedundantPrefixAcceptedLongerRefused", unfollowed := true, recurses := true, apart := false, narrowed := true }
def FnRedundantPrefixAcceptedLongerRefusedUptoSaid : Prop := fnRedundantPrefixAcceptedLongerRefusedUptoRow.holds Try.pinned (OpenSpec.upto fnRedundantPrefixAcceptedLongerRefusedSpec)

/-- 'n011_61.FnCCIALessIsStrictOrder', WHERE WHAT IT READS IS OF BULK AT MOST 1048576: true; the input reads as it did. -/
def fnCCIALessIsStrictOrderUptoRow : OpenClaim := { program := "ytmpiepanajhfdaa", sum := "38417fe812950ada7778fcaa99d0b113795b51cb6fc59a92ea642a45161195ad", func := "github.com/evanw/esbuild/n011_61.FnCCIALessIsStrictOrder", spec := "fnCCIALessIsStrictOrder", apart := false, narrowed := true }
def FnCCIALessIsStrictOrderUptoSaid : Prop := fnCCIALessIsStrictOrderUptoRow.holds Try.pinned (OpenSpec.upto fnCCIALessIsStrictOrderSpec)

/-- 'n011_61.FnCCIALessSortsByChunkIndex', WHERE WHAT IT READS IS OF BULK AT MOST 1048576: true; the input reads as it did. -/
def fnCCIALessSortsByChunkIndexUptoRow : OpenClaim := { program := "ytmpiepanajhfdaa", sum := "38417fe812950ada7778fcaa99d0b113795b51cb6fc59a92ea642a45161195ad", func := "github.com/evanw/esbuild/n011_61.FnCCIALessSortsByChunkIndex", spec := "fnCCIALessSortsByChunkIndex", apart := false, narrowed := true }
def FnCCIALessSortsByChunkIndexUptoSaid : Prop := fnCCIALessSortsByChunkIndexUptoRow.holds Try.pinned (OpenSpec.upto fnCCIALessSortsByChunkIndexSpec)

/-- 'n011_63.FnSwapScriptIsPermutationUndoneInReverse', WHERE WHAT IT READS IS OF BULK AT MOST 1048576: true; the input reads as it did. -/
def fnSwapScriptIsPermutationUndoneInReverseUptoRow : OpenClaim := { program := "ytmpiepanajhfdaa", sum := "38417fe812950ada7778fcaa99d0b113795b51cb6fc59a92ea642a45161195ad", func := "github.com/evanw/esbuild/n011_63.FnSwapScriptIsPermutationUndoneInReverse", spec := "fnSwapScriptIsPermutationUndoneInReverse", apart := false, narrowed := true }
def FnSwapScriptIsPermutationUndoneInReverseUptoSaid : Prop := fnSwapScriptIsPermutationUndoneInReverseUptoRow.holds Try.pinned (OpenSpec.upto fnSwapScriptIsPermutationUndoneInReverseSpec)

end Rows
end Go.Proofs.Ytmpiepanajhfdaa
