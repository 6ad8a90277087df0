/-
  The walk of FnMakeIndex32Injective: MakeIndex32 of a and MakeIndex32 of b are equal exactly when a and b are equal, for all uint32 a and b.
  Conditions: none beyond those of the given statement Rows.FnMakeIndex32InjectiveSaid.
-/
import Derived.Test.YtkmleifkceghlaaRows
import Derived.WalkKit
import Derived.ProofKit
import Derived.OpenShut
import Derived.Test.YtkmleifkceghlaaIdx
namespace Go.Proofs.Ytkmleifkceghlaa.fnMakeIndex32Injective
open Go.ChangeShapes Go.WideShapes Go.ChangeAt Go.RowKit
set_option linter.unusedVariables false      -- a walk need not use every 'w<i>' (that an integer argument fits its kind)

theorem walk (a0 : Int) (a1 : Int) (w0 : (Lit.int .u32 a0).wf = true) (w1 : (Lit.int .u32 a1).wf = true) (w : World) :
    Calls Try.prog 3 #[.int .u32 a0, .int .u32 a1] w fun e w' => e = .returned (.bool true) ∧ Grown w w' := by
  have b0 := bounds_u32 w0
  have b1 := bounds_u32 w1
  go_enter Try.func3, Try.ntmps3
  go_wp2_with fail
  refine (idx.make a0 (by omega) (by omega) _).mono ?_
  rintro e w1 ⟨rfl, g1⟩
  go_wp2_with fail
  refine (idx.make a1 (by omega) (by omega) _).mono ?_
  rintro e w2 ⟨rfl, g2⟩
  by_cases h : a0 = a1
  · subst h
    go_wp2
    go_ret
    exact ⟨by simp, idx.Grown.trans g1 g2⟩
  · go_wp2
    go_ret
    exact ⟨by simp [h], idx.Grown.trans g1 g2⟩
end Go.Proofs.Ytkmleifkceghlaa.fnMakeIndex32Injective
