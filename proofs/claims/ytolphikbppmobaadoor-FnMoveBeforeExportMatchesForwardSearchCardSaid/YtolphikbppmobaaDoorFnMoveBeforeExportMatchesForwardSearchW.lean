/-
  The walk of FnMoveBeforeExportMatchesForwardSearch: moveBeforeExport agrees with a forward search for "export" followed only by spaces up to the index.
  Conditions: none beyond those of the given statement Rows.FnMoveBeforeExportMatchesForwardSearchSaid.
-/
import Derived.Test.YtolphikbppmobaaDoorRows
import Derived.WalkKit
import Derived.ProofKit
import Derived.OpenShut
import Derived.ShutString
import Derived.Test.YtolphikbppmobaaDoorMl
namespace Go.Proofs.YtolphikbppmobaaDoor.fnMoveBeforeExportMatchesForwardSearch
open Go.ChangeShapes Go.WideShapes Go.ChangeAt Go.RowKit
open Go.ChangeMaps (open_string shut_string)
set_option linter.unusedVariables false      -- a walk need not use every 'w<i>' (that an integer argument fits its kind)

theorem wfb {n : Int} (h : (Lit.int .i64 n).wf = true) : -9223372036854775808 ≤ n ∧ n ≤ 9223372036854775807 := by
  simp only [Lit.wf, Bool.and_eq_true, decide_eq_true_eq] at h
  exact h
theorem walk (a0 : ByteArray) (a1 : Int) (w0 : a0.size ≤ maxLen) (w1 : (Lit.int .i64 a1).wf = true) (w : World) :
    Calls Tryd.prog 3 #[.string a0, .int .i64 a1] w fun e w' => e = .returned (.bool true) ∧ Below w.heap.size w w' := by
  have hb := wfb w1
  exact mv.main a0 a1 w0 hb.1 hb.2 w
end Go.Proofs.YtolphikbppmobaaDoor.fnMoveBeforeExportMatchesForwardSearch
