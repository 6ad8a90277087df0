/-
  The walk of FnDotThenPairRestoresIndentAndBalances: Prefix, any inner text, suffix: the indent comes back, prior and inner text stand verbatim, the two wrapper pieces close every bracket they open, and when minifying they hold no space or newline.
  Conditions: none beyond those of the given statement Rows.FnDotThenPairRestoresIndentAndBalancesSaid.
-/
import Derived.Test.YtdpljbhbnlcoaaaRows
import Derived.WalkKit
import Derived.ProofKit
import Derived.OpenShut
import Derived.ShutString
import Derived.Test.YtdpljbhbnlcoaaaDx9
namespace Go.Proofs.Ytdpljbhbnlcoaaa.fnDotThenPairRestoresIndentAndBalances
open Go.ChangeShapes Go.WideShapes Go.ChangeAt Go.RowKit
open Go.ChangeMaps (open_string shut_string)
set_option linter.unusedVariables false      -- a walk need not use every 'w<i>' (that an integer argument fits its kind)

open kit dx

theorem walk (a0 : ByteArray) (a1 : ByteArray) (a2 : Bool) (a3 : Bool) (a4 : Int) (w0 : a0.size ≤ maxLen) (w1 : a1.size ≤ maxLen) (w4 : (Lit.int .i64 a4).wf = true) (w : World) :
    Calls Try.prog 4 #[.string a0, .string a1, .bool a2, .bool a3, .int .i64 a4] w fun e w' => e = .returned (.bool true) ∧ Below w.heap.size w w' :=
  main a0 a1 a2 a3 a4 w w0 w1
end Go.Proofs.Ytdpljbhbnlcoaaa.fnDotThenPairRestoresIndentAndBalances
