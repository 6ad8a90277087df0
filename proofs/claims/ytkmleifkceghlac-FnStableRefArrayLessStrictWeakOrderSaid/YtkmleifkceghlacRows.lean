/-
  No cell of these rows narrows 'for every input' (looked for: loops, veiled, ifaces, maps, wideKeys, modest, calm, conditions, laid).
  DERIVED. THE GIVEN ROWS OF THIS SEAT. 2 by the template 'for every input the law returns true; each argument reads behind the call as it read before'; 0 by the template 'total and deterministic' (their statements: YtkmleifkceghlacTotals.lean).
  GIVEN WITH THE SEED: the statements are not yours to turn. If you find one false, say at which input.
  Laid BY PROGRAM, IN A SANDBOX (cutbox-rows.mjs): the forced cells as the released guide's own fill.sh prints them over the translation d698a2332059d773… (all of the seat's roots in one cut). By AI agents, Wed Nov 11 2026. No macro, syntax, notation, axiom, sorry.
-/
import Derived.Test.YtkmleifkceghlacChecked
import GoSem.Claim
import GoSem.ClaimJoined
import GoSem.ClaimMapViews
import Derived.JoinedTies
import Derived.KernelRfl
namespace Go.Proofs.Ytkmleifkceghlac
/- THE CELL 'sum', in the pinned program and in every row, IS THE sha256 OF THE DUMP (.gsa) THAT YtkmleifkceghlacProg.lean LOADS. Nothing in Lean hashes anything: it is a label: what it is worth is what the hold of that sum in a sandbox is worth. -/
noncomputable def Try.pinned : Pinned := { name := "ytkmleifkceghlac", sum := "d698a2332059d77379db4f69b6dfb599684d96bfd7a03dc10e4520bcf5dcf048", checked := Try.checked }
namespace Rows
def none {H : Type} : Left H := { results := [], args := [] }

/-- 'n011_79.FnStableRefArrayLessStrictWeakOrder': WHATEVER THE INPUT: true; the input reads as it did. -/
def fnStableRefArrayLessStrictWeakOrderSpec : ChangeSpec := { name := "fnStableRefArrayLessStrictWeakOrder", fn := fun _ => fun
  | [d1, d2, d3, d4, d5, d6, d7, d8, d9] => { results := [.lit (.bool true)], args := [d1, d2, d3, d4, d5, d6, d7, d8, d9] }
  | _ => none }
def fnStableRefArrayLessStrictWeakOrderRow : OpenClaim := { program := "ytkmleifkceghlac", sum := "d698a2332059d77379db4f69b6dfb599684d96bfd7a03dc10e4520bcf5dcf048", func := "github.com/evanw/esbuild/n011_79.FnStableRefArrayLessStrictWeakOrder", spec := "fnStableRefArrayLessStrictWeakOrder", apart := false }
def FnStableRefArrayLessStrictWeakOrderSaid : Prop := fnStableRefArrayLessStrictWeakOrderRow.holds Try.pinned (OpenSpec.ofChange fnStableRefArrayLessStrictWeakOrderSpec)

/-- ITS FALSE NEIGHBOUR: 'it returns false'. Refute it at one input. -/
def fnStableRefArrayLessStrictWeakOrderWrong : ChangeSpec := { name := "fnStableRefArrayLessStrictWeakOrder", fn := fun _ => fun
  | [d1, d2, d3, d4, d5, d6, d7, d8, d9] => { results := [.lit (.bool false)], args := [d1, d2, d3, d4, d5, d6, d7, d8, d9] }
  | _ => none }
def FnStableRefArrayLessStrictWeakOrderWrongFalsely : Prop := fnStableRefArrayLessStrictWeakOrderRow.holds Try.pinned (OpenSpec.ofChange fnStableRefArrayLessStrictWeakOrderWrong)

/-- 'n011_5.FnParseSmallIntLeadingZerosAndSign': WHATEVER THE INPUT: true; the input reads as it did. -/
def fnParseSmallIntLeadingZerosAndSignSpec : ChangeSpec := { name := "fnParseSmallIntLeadingZerosAndSign", fn := fun _ => fun
  | [d1, d2, d3] => { results := [.lit (.bool true)], args := [d1, d2, d3] }
  | _ => none }
def fnParseSmallIntLeadingZerosAndSignRow : OpenClaim := { program := "ytkmleifkceghlac", sum := "d698a2332059d77379db4f69b6dfb599684d96bfd7a03dc10e4520bcf5dcf048", func := "github.com/evanw/esbuild/n011_5.FnParseSmallIntLeadingZerosAndSign", spec := "fnParseSmallIntLeadingZerosAndSign", apart := false }
def FnParseSmallIntLeadingZerosAndSignSaid : Prop := fnParseSmallIntLeadingZerosAndSignRow.holds Try.pinned (OpenSpec.ofChange fnParseSmallIntLeadingZerosAndSignSpec)

/-- ITS FALSE NEIGHBOUR: 'it returns false'. Refute it at one input. -/
def fnParseSmallIntLeadingZerosAndSignWrong : ChangeSpec := { name := "fnParseSmallIntLeadingZerosAndSign", fn := fun _ => fun
  | [d1, d2, d3] => { results := [.lit (.bool false)], args := [d1, d2, d3] }
  | _ => none }
def FnParseSmallIntLeadingZerosAndSignWrongFalsely : Prop := fnParseSmallIntLeadingZerosAndSignRow.holds Try.pinned (OpenSpec.ofChange fnParseSmallIntLeadingZerosAndSignWrong)

/- THE SECOND FORM. 'bulk': how many values and letters a reading holds, each counted each time it is reached (what is shared counts as often as it is met; a slice's spare places count too). A statement '..UptoSaid' is the law's where the arguments, and the package variables that the reading takes, are together of bulk at most 1048576: NARROWER than '..Said'. Prove '..Said' where nothing that the law and all that it calls make is longer than what came in: it says more and counts as full. Else prove '..UptoSaid'. A law counts once. -/
mutual
def uptoBulk {H : Type} : DataW H → Nat
  | .lit (.string bytes) => bytes.length + 1
  | .lit _ => 1
  | .nil => 1
  | .ptr d => uptoBulk d + 1
  | .slice elems spare => uptoBulkAll elems + uptoBulkAll spare + 1
  | .agg parts => uptoBulkAll parts + 1
  | .iface _ d => uptoBulk d + 1
  | .map entries => uptoBulkEntries entries + 1
  | .held _ => 1
def uptoBulkAll {H : Type} : List (DataW H) → Nat
  | [] => 0
  | d :: r => uptoBulk d + uptoBulkAll r
def uptoBulkEntries {H : Type} : List (Lit × DataW H) → Nat
  | [] => 0
  | x :: r => uptoBulkEntry x + uptoBulkEntries r
def uptoBulkEntry {H : Type} : Lit × DataW H → Nat
  | (.string bytes, d) => bytes.length + uptoBulk d + 1
  | (_, d) => uptoBulk d + 1
 end
def uptoSmall : (H : Type) → List (DataW H) → Bool := fun _ ds => decide (uptoBulkAll ds ≤ 1048576)
def OpenSpec.upto (s : _root_.Go.ChangeSpec) : _root_.Go.OpenSpec := { _root_.Go.OpenSpec.ofChange s with cond := some uptoSmall }

/-- 'n011_79.FnStableRefArrayLessStrictWeakOrder', WHERE WHAT IT READS IS OF BULK AT MOST 1048576: true; the input reads as it did. -/
def fnStableRefArrayLessStrictWeakOrderUptoRow : OpenClaim := { program := "ytkmleifkceghlac", sum := "d698a2332059d77379db4f69b6dfb599684d96bfd7a03dc10e4520bcf5dcf048", func := "github.com/evanw/esbuild/n011_79.FnStableRefArrayLessStrictWeakOrder", spec := "fnStableRefArrayLessStrictWeakOrder", apart := false, narrowed := true }
def FnStableRefArrayLessStrictWeakOrderUptoSaid : Prop := fnStableRefArrayLessStrictWeakOrderUptoRow.holds Try.pinned (OpenSpec.upto fnStableRefArrayLessStrictWeakOrderSpec)

/-- 'n011_5.FnParseSmallIntLeadingZerosAndSign', WHERE WHAT IT READS IS OF BULK AT MOST 1048576: true; the input reads as it did. -/
def fnParseSmallIntLeadingZerosAndSignUptoRow : OpenClaim := { program := "ytkmleifkceghlac", sum := "d698a2332059d77379db4f69b6dfb599684d96bfd7a03dc10e4520bcf5dcf048", func := "github.com/evanw/esbuild/n011_5.FnParseSmallIntLeadingZerosAndSign", spec := "fnParseSmallIntLeadingZerosAndSign", apart := false, narrowed := true }
def FnParseSmallIntLeadingZerosAndSignUptoSaid : Prop := fnParseSmallIntLeadingZerosAndSignUptoRow.holds Try.pinned (OpenSpec.upto fnParseSmallIntLeadingZerosAndSignSpec)

end Rows
end Go.Proofs.Ytkmleifkceghlac
