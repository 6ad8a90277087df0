/-
  The walk of FnCSSKindsNestURLAloneLoose: A kind that must resolve to CSS is a CSS kind, and a CSS kind that need not is exactly ImportURL, for every byte.
  Conditions: none beyond those of the given statement Rows.FnCSSKindsNestURLAloneLooseSaid.
-/
import Derived.Test.YtkmleifkceghlabRows
import Derived.WalkKit
import Derived.ProofKit
import Derived.OpenShut
namespace Go.Proofs.Ytkmleifkceghlab.fnCSSKindsNestURLAloneLoose
open Go.ChangeShapes Go.WideShapes Go.ChangeAt Go.RowKit
set_option linter.unusedVariables false      -- a walk need not use every 'w<i>' (that an integer argument fits its kind)

theorem walk (a0 : Int) (w0 : (Lit.int .u8 a0).wf = true) (w : World) :
    Calls Try.prog 6 #[.int .u8 a0] w fun e w' => e = .returned (.bool true) ∧ Grown w w' := by
  have b0 := bounds_u8 w0
  by_cases h1 : a0 < 5
  · go_enter Try.func6, Try.ntmps6
    go_wp2
    go_ret
    exact ⟨by simp, Grown.refl _⟩
  · by_cases h2 : 7 < a0
    · go_enter Try.func6, Try.ntmps6
      go_wp2
      go_ret
      exact ⟨by simp, Grown.refl _⟩
    · have h3 : a0 = 5 ∨ a0 = 6 ∨ a0 = 7 := by omega
      clear h1 h2 b0 w0
      rcases h3 with rfl | rfl | rfl <;>
      · go_enter Try.func6, Try.ntmps6
        go_wp2
        go_ret
        exact ⟨rfl, Grown.refl _⟩
end Go.Proofs.Ytkmleifkceghlab.fnCSSKindsNestURLAloneLoose
