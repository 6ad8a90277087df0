/-
  No cell of these rows narrows 'for every input' (looked for: loops, veiled, ifaces, maps, wideKeys, modest, calm, conditions, laid).
  DERIVED. THE GIVEN ROWS OF THIS SEAT. 6 by the template 'for every input the law returns true; each argument reads behind the call as it read before'; 0 by the template 'total and deterministic' (their statements: YtkmleifkceghlaaTotals.lean).
  GIVEN WITH THE SEED: the statements are not yours to turn. If you find one false, say at which input.
  Laid BY PROGRAM, IN A SANDBOX (cutbox-rows.mjs): the forced cells as the released guide's own fill.sh prints them over the translation 1f457b3016b88fe5… (all of the seat's roots in one cut). By AI agents, Wed Nov 11 2026. No macro, syntax, notation, axiom, sorry.
-/
import Derived.Test.YtkmleifkceghlaaChecked
import GoSem.Claim
import GoSem.ClaimJoined
import GoSem.ClaimMapViews
import Derived.JoinedTies
import Derived.KernelRfl
namespace Go.Proofs.Ytkmleifkceghlaa
/- THE CELL 'sum', in the pinned program and in every row, IS THE sha256 OF THE DUMP (.gsa) THAT YtkmleifkceghlaaProg.lean LOADS. Nothing in Lean hashes anything: it is a label: what it is worth is what the hold of that sum in a sandbox is worth. -/
noncomputable def Try.pinned : Pinned := { name := "ytkmleifkceghlaa", sum := "1f457b3016b88fe5d60445f8498c68e7f848b3760449f9b0f8080658d401ef95", checked := Try.checked }
namespace Rows
def none {H : Type} : Left H := { results := [], args := [] }

/-- 'n011_288.FnMakeIndex32Injective': WHATEVER THE INPUT: true; the input reads as it did. -/
def fnMakeIndex32InjectiveSpec : ChangeSpec := { name := "fnMakeIndex32Injective", fn := fun _ => fun
  | [d1, d2] => { results := [.lit (.bool true)], args := [d1, d2] }
  | _ => none }
def fnMakeIndex32InjectiveRow : OpenClaim := { program := "ytkmleifkceghlaa", sum := "1f457b3016b88fe5d60445f8498c68e7f848b3760449f9b0f8080658d401ef95", func := "github.com/evanw/esbuild/n011_288.FnMakeIndex32Injective", spec := "fnMakeIndex32Injective", apart := false }
def FnMakeIndex32InjectiveSaid : Prop := fnMakeIndex32InjectiveRow.holds Try.pinned (OpenSpec.ofChange fnMakeIndex32InjectiveSpec)

/-- ITS FALSE NEIGHBOUR: 'it returns false'. Refute it at one input. -/
def fnMakeIndex32InjectiveWrong : ChangeSpec := { name := "fnMakeIndex32Injective", fn := fun _ => fun
  | [d1, d2] => { results := [.lit (.bool false)], args := [d1, d2] }
  | _ => none }
def FnMakeIndex32InjectiveWrongFalsely : Prop := fnMakeIndex32InjectiveRow.holds Try.pinned (OpenSpec.ofChange fnMakeIndex32InjectiveWrong)

/-- 'n011_288.FnIndex32RoundTripGetMake': WHATEVER THE INPUT: true; the input reads as it did. -/
def fnIndex32RoundTripGetMakeSpec : ChangeSpec := { name := "fnIndex32RoundTripGetMake", fn := fun _ => fun
  | [d] => { results := [.lit (.bool true)], args := [d] }
  | _ => none }
def fnIndex32RoundTripGetMakeRow : OpenClaim := { program := "ytkmleifkceghlaa", sum := "1f457b3016b88fe5d60445f8498c68e7f848b3760449f9b0f8080658d401ef95", func := "github.com/evanw/esbuild/n011_288.FnIndex32RoundTripGetMake", spec := "fnIndex32RoundTripGetMake", apart := false }
def FnIndex32RoundTripGetMakeSaid : Prop := fnIndex32RoundTripGetMakeRow.holds Try.pinned (OpenSpec.ofChange fnIndex32RoundTripGetMakeSpec)

/-- ITS FALSE NEIGHBOUR: 'it returns false'. Refute it at one input. -/
def fnIndex32RoundTripGetMakeWrong : ChangeSpec := { name := "fnIndex32RoundTripGetMake", fn := fun _ => fun
  | [d] => { results := [.lit (.bool false)], args := [d] }
  | _ => none }
def FnIndex32RoundTripGetMakeWrongFalsely : Prop := fnIndex32RoundTripGetMakeRow.holds Try.pinned (OpenSpec.ofChange fnIndex32RoundTripGetMakeWrong)

/-- 'n011_32.FnIsPrivateExactTable': WHATEVER THE INPUT: true; the input reads as it did. -/
def fnIsPrivateExactTableSpec : ChangeSpec := { name := "fnIsPrivateExactTable", fn := fun _ => fun
  | [d] => { results := [.lit (.bool true)], args := [d] }
  | _ => none }
def fnIsPrivateExactTableRow : OpenClaim := { program := "ytkmleifkceghlaa", sum := "1f457b3016b88fe5d60445f8498c68e7f848b3760449f9b0f8080658d401ef95", func := "github.com/evanw/esbuild/n011_32.FnIsPrivateExactTable", spec := "fnIsPrivateExactTable", apart := false }
def FnIsPrivateExactTableSaid : Prop := fnIsPrivateExactTableRow.holds Try.pinned (OpenSpec.ofChange fnIsPrivateExactTableSpec)

/-- ITS FALSE NEIGHBOUR: 'it returns false'. Refute it at one input. -/
def fnIsPrivateExactTableWrong : ChangeSpec := { name := "fnIsPrivateExactTable", fn := fun _ => fun
  | [d] => { results := [.lit (.bool false)], args := [d] }
  | _ => none }
def FnIsPrivateExactTableWrongFalsely : Prop := fnIsPrivateExactTableRow.holds Try.pinned (OpenSpec.ofChange fnIsPrivateExactTableWrong)

/-- 'n011_211.FnChunkOrderLessIsKeyCompare': WHATEVER THE INPUT: true; the input reads as it did. -/
def fnChunkOrderLessIsKeyCompareSpec : ChangeSpec := { name := "fnChunkOrderLessIsKeyCompare", fn := fun _ => fun
  | [d1, d2, d3, d4, d5, d6] => { results := [.lit (.bool true)], args := [d1, d2, d3, d4, d5, d6] }
  | _ => none }
def fnChunkOrderLessIsKeyCompareRow : OpenClaim := { program := "ytkmleifkceghlaa", sum := "1f457b3016b88fe5d60445f8498c68e7f848b3760449f9b0f8080658d401ef95", func := "github.com/evanw/esbuild/n011_211.FnChunkOrderLessIsKeyCompare", spec := "fnChunkOrderLessIsKeyCompare", apart := false }
def FnChunkOrderLessIsKeyCompareSaid : Prop := fnChunkOrderLessIsKeyCompareRow.holds Try.pinned (OpenSpec.ofChange fnChunkOrderLessIsKeyCompareSpec)

/-- ITS FALSE NEIGHBOUR: 'it returns false'. Refute it at one input. -/
def fnChunkOrderLessIsKeyCompareWrong : ChangeSpec := { name := "fnChunkOrderLessIsKeyCompare", fn := fun _ => fun
  | [d1, d2, d3, d4, d5, d6] => { results := [.lit (.bool false)], args := [d1, d2, d3, d4, d5, d6] }
  | _ => none }
def FnChunkOrderLessIsKeyCompareWrongFalsely : Prop := fnChunkOrderLessIsKeyCompareRow.holds Try.pinned (OpenSpec.ofChange fnChunkOrderLessIsKeyCompareWrong)

/-- 'n011_32.FnSlotNamespacePrivateAgreement': WHATEVER THE INPUT: true; the input reads as it did. -/
def fnSlotNamespacePrivateAgreementSpec : ChangeSpec := { name := "fnSlotNamespacePrivateAgreement", fn := fun _ => fun
  | [d1, d2] => { results := [.lit (.bool true)], args := [d1, d2] }
  | _ => none }
def fnSlotNamespacePrivateAgreementRow : OpenClaim := { program := "ytkmleifkceghlaa", sum := "1f457b3016b88fe5d60445f8498c68e7f848b3760449f9b0f8080658d401ef95", func := "github.com/evanw/esbuild/n011_32.FnSlotNamespacePrivateAgreement", spec := "fnSlotNamespacePrivateAgreement", apart := false }
def FnSlotNamespacePrivateAgreementSaid : Prop := fnSlotNamespacePrivateAgreementRow.holds Try.pinned (OpenSpec.ofChange fnSlotNamespacePrivateAgreementSpec)

/-- ITS FALSE NEIGHBOUR: 'it returns false'. Refute it at one input. -/
def fnSlotNamespacePrivateAgreementWrong : ChangeSpec := { name := "fnSlotNamespacePrivateAgreement", fn := fun _ => fun
  | [d1, d2] => { results := [.lit (.bool false)], args := [d1, d2] }
  | _ => none }
def FnSlotNamespacePrivateAgreementWrongFalsely : Prop := fnSlotNamespacePrivateAgreementRow.holds Try.pinned (OpenSpec.ofChange fnSlotNamespacePrivateAgreementWrong)

/-- 'n011_79.FnStableRefArrayLessPackedKey': WHATEVER THE INPUT: true; the input reads as it did. -/
def fnStableRefArrayLessPackedKeySpec : ChangeSpec := { name := "fnStableRefArrayLessPackedKey", fn := fun _ => fun
  | [d1, d2, d3, d4, d5, d6] => { results := [.lit (.bool true)], args := [d1, d2, d3, d4, d5, d6] }
  | _ => none }
def fnStableRefArrayLessPackedKeyRow : OpenClaim := { program := "ytkmleifkceghlaa", sum := "1f457b3016b88fe5d60445f8498c68e7f848b3760449f9b0f8080658d401ef95", func := "github.com/evanw/esbuild/n011_79.FnStableRefArrayLessPackedKey", spec := "fnStableRefArrayLessPackedKey", apart := false }
def FnStableRefArrayLessPackedKeySaid : Prop := fnStableRefArrayLessPackedKeyRow.holds Try.pinned (OpenSpec.ofChange fnStableRefArrayLessPackedKeySpec)

/-- ITS FALSE NEIGHBOUR: 'it returns false'. Refute it at one input. -/
def fnStableRefArrayLessPackedKeyWrong : ChangeSpec := { name := "fnStableRefArrayLessPackedKey", fn := fun _ => fun
  | [d1, d2, d3, d4, d5, d6] => { results := [.lit (.bool false)], args := [d1, d2, d3, d4, d5, d6] }
  | _ => none }
def FnStableRefArrayLessPackedKeyWrongFalsely : Prop := fnStableRefArrayLessPackedKeyRow.holds Try.pinned (OpenSpec.ofChange fnStableRefArrayLessPackedKeyWrong)

/- THE SECOND FORM. 'bulk': how many values and letters a reading holds, each counted each time it is reached (what is shared counts as often as it is met; a slice's spare places count too). A statement '..UptoSaid' is the law's where the arguments, and the package variables that the reading takes, are together of bulk at most 1048576: NARROWER than '..Said'. Prove '..Said' where nothing that the law and all that it calls make is longer than what came in: it says more and counts as full. Else prove '..UptoSaid'. A law counts once. -/
mutual
def uptoBulk {H : Type} : DataW H → Nat
  | .lit (.string bytes) => bytes.length + 1
  | .lit _ => 1
  | .nil => 1
  | .ptr d => uptoBulk d + 1
  | .slice elems spare => uptoBulkAll elems + uptoBulkAll spare + 1
  | .agg parts => uptoBulkAll parts + 1
  | .iface _ d => uptoBulk d + 1
  | .map entries => uptoBulkEntries entries + 1
  | .held _ => 1
def uptoBulkAll {H : Type} : List (DataW H) → Nat
  | [] => 0
  | d :: r => uptoBulk d + uptoBulkAll r
def uptoBulkEntries {H : Type} : List (Lit × DataW H) → Nat
  | [] => 0
  | x :: r => uptoBulkEntry x + uptoBulkEntries r
def uptoBulkEntry {H : Type} : Lit × DataW H → Nat
  | (.string bytes, d) => bytes.length + uptoBulk d + 1
  | (_, d) => uptoBulk d + 1
 end
def uptoSmall : (H : Type) → List (DataW H) → Bool := fun _ ds => decide (uptoBulkAll ds ≤ 1048576)
def OpenSpec.upto (s : _root_.Go.ChangeSpec) : _root_.Go.OpenSpec := { _root_.Go.OpenSpec.ofChange s with cond := some uptoSmall }

/-- 'n011_288.FnMakeIndex32Injective', WHERE WHAT IT READS IS OF BULK AT MOST 1048576: true; the input reads as it did. -/
def fnMakeIndex32InjectiveUptoRow : OpenClaim := { program := "ytkmleifkceghlaa", sum := "1f457b3016b88fe5d60445f8498c68e7f848b3760449f9b0f8080658d401ef95", func := "github.com/evanw/esbuild/n011_288.FnMakeIndex32Injective", spec := "fnMakeIndex32Injective", apart := false, narrowed := true }
def FnMakeIndex32InjectiveUptoSaid : Prop := fnMakeIndex32InjectiveUptoRow.holds Try.pinned (OpenSpec.upto fnMakeIndex32InjectiveSpec)

/-- 'n011_288.FnIndex32RoundTripGetMake', WHERE WHAT IT READS IS OF BULK AT MOST 1048576: true; the input reads as it did. -/
def fnIndex32RoundTripGetMakeUptoRow : OpenClaim := { program := "ytkmleifkceghlaa", sum := "1f457b3016b88fe5d60445f8498c68e7f848b3760449f9b0f8080658d401ef95", func := "github.com/evanw/esbuild/n011_288.FnIndex32RoundTripGetMake", spec := "fnIndex32RoundTripGetMake", apart := false, narrowed := true }
def FnIndex32RoundTripGetMakeUptoSaid : Prop := fnIndex32RoundTripGetMakeUptoRow.holds Try.pinned (OpenSpec.upto fnIndex32RoundTripGetMakeSpec)

/-- 'n011_32.FnIsPrivateExactTable', WHERE WHAT IT READS IS OF BULK AT MOST 1048576: true; the input reads as it did. -/
def fnIsPrivateExactTableUptoRow : OpenClaim := { program := "ytkmleifkceghlaa", sum := "1f457b3016b88fe5d60445f8498c68e7f848b3760449f9b0f8080658d401ef95", func := "github.com/evanw/esbuild/n011_32.FnIsPrivateExactTable", spec := "fnIsPrivateExactTable", apart := false, narrowed := true }
def FnIsPrivateExactTableUptoSaid : Prop := fnIsPrivateExactTableUptoRow.holds Try.pinned (OpenSpec.upto fnIsPrivateExactTableSpec)

/-- 'n011_211.FnChunkOrderLessIsKeyCompare', WHERE WHAT IT READS IS OF BULK AT MOST 1048576: true; the input reads as it did. -/
def fnChunkOrderLessIsKeyCompareUptoRow : OpenClaim := { program := "ytkmleifkceghlaa", sum := "1f457b3016b88fe5d60445f8498c68e7f848b3760449f9b0f8080658d401ef95", func := "github.com/evanw/esbuild/n011_211.FnChunkOrderLessIsKeyCompare", spec := "fnChunkOrderLessIsKeyCompare", apart := false, narrowed := true }
def FnChunkOrderLessIsKeyCompareUptoSaid : Prop := fnChunkOrderLessIsKeyCompareUptoRow.holds Try.pinned (OpenSpec.upto fnChunkOrderLessIsKeyCompareSpec)

/-- 'n011_32.FnSlotNamespacePrivateAgreement', WHERE WHAT IT READS IS OF BULK AT MOST 1048576: true; the input reads as it did. -/
def fnSlotNamespacePrivateAgreementUptoRow : OpenClaim := { program := "ytkmleifkceghlaa", sum := "1f457b3016b88fe5d60445f8498c68e7f848b3760449f9b0f8080658d401ef95", func := "github.com/evanw/esbuild/n011_32.FnSlotNamespacePrivateAgreement", spec := "fnSlotNamespacePrivateAgreement", apart := false, narrowed := true }
def FnSlotNamespacePrivateAgreementUptoSaid : Prop := fnSlotNamespacePrivateAgreementUptoRow.holds Try.pinned (OpenSpec.upto fnSlotNamespacePrivateAgreementSpec)

/-- 'n011_79.FnStableRefArrayLessPackedKey', WHERE WHAT IT READS IS OF BULK AT MOST 1048576: true; the input reads as it did. -/
def fnStableRefArrayLessPackedKeyUptoRow : OpenClaim := { program := "ytkmleifkceghlaa", sum := "1f457b3016b88fe5d60445f8498c68e7f848b3760449f9b0f8080658d401ef95", func := "github.com/evanw/esbuild/n011_79.FnStableRefArrayLessPackedKey", spec := "fnStableRefArrayLessPackedKey", apart := false, narrowed := true }
def FnStableRefArrayLessPackedKeyUptoSaid : Prop := fnStableRefArrayLessPackedKeyUptoRow.holds Try.pinned (OpenSpec.upto fnStableRefArrayLessPackedKeySpec)

end Rows
end Go.Proofs.Ytkmleifkceghlaa
