/-
  The walk of FnIndex32RoundTripGetMake: MakeIndex32 of the GetIndex of any Index32 value is that value again.
  Conditions: none beyond those of the given statement Rows.FnIndex32RoundTripGetMakeSaid.
-/
import Derived.Test.YtkmleifkceghlaaRows
import Derived.WalkKit
import Derived.ProofKit
import Derived.OpenShut
import Derived.Test.YtkmleifkceghlaaIdx2
import Derived.Deep.RegionHeld3
namespace Go.Proofs.Ytkmleifkceghlaa.fnIndex32RoundTripGetMake
open Go.ChangeShapes Go.WideShapes Go.ChangeAt Go.RowKit
set_option linter.unusedVariables false      -- a walk need not use every 'w<i>' (that an integer argument fits its kind)

theorem walk (a0 : Int) (w0 : (Lit.int .u32 a0).wf = true) (w : World) :
    Calls Try.prog 4 #[.int .u32 a0] w fun e w' => e = .returned (.bool true) ∧ Grown w w' := by
  have b0 := bounds_u32 w0
  go_enter Try.func4, Try.ntmps4
  go_wp2_with fail
  refine (idx2.newIdx a0 _).mono ?_
  rintro e w1 ⟨rfl, g1⟩
  go_wp2_with fail
  have hx : 4294967295 - (4294967295 - a0) = a0 := by omega
  go_region_held3 (fun w' => w'.cell? ⟨w1.heap.size, 0, none⟩ = some (.int .u32 a0)) (go_keep) (first | (go_at_call 11; refine (idx2.get' a0 (by omega) (by omega) _).mono ?_; rintro e w' ⟨rfl, rfl⟩) | (go_at_call 9; refine (idx2.make' (4294967295 - a0) (by omega) (by omega) _).mono ?_; rintro e w' ⟨rfl, rfl⟩))
  go_wp2
  go_ret
  exact ⟨rfl, (((g1.alloc _ _).alloc _ _).alloc _ _).drew⟩
end Go.Proofs.Ytkmleifkceghlaa.fnIndex32RoundTripGetMake
