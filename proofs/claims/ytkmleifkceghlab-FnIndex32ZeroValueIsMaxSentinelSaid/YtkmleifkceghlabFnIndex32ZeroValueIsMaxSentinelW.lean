/-
  The walk of FnIndex32ZeroValueIsMaxSentinel: The zero Index32 reads index 0xFFFFFFFF and is invalid, and MakeIndex32(x) is the zero value exactly when x is 0xFFFFFFFF.
  Conditions: none beyond those of the given statement Rows.FnIndex32ZeroValueIsMaxSentinelSaid.
-/
import Derived.Test.YtkmleifkceghlabRows
import Derived.WalkKit
import Derived.ProofKit
import Derived.OpenShut
import Derived.Test.YtkmleifkceghlabIdx2
import Derived.Deep.RegionHeld3
namespace Go.Proofs.Ytkmleifkceghlab.fnIndex32ZeroValueIsMaxSentinel
open Go.ChangeShapes Go.WideShapes Go.ChangeAt Go.RowKit
set_option linter.unusedVariables false      -- a walk need not use every 'w<i>' (that an integer argument fits its kind)

theorem walk (a0 : Int) (w0 : (Lit.int .u32 a0).wf = true) (w : World) :
    Calls Try.prog 3 #[.int .u32 a0] w fun e w' => e = .returned (.bool true) ∧ Grown w w' := by
  have b0 := bounds_u32 w0
  have hz : bits .xor .u32 IntKind.u32.max 0 = 4294967295 := idx2.flip32 0 (by omega) (by omega)
  have hp : ((4294967295 - a0) == 0) = (a0 == 4294967295) := by
    rw [Bool.eq_iff_iff]; simp; omega
  have hq : (4294967295 - a0 = 0) = (a0 = 4294967295) := by
    apply propext; omega
  by_cases h : a0 = 4294967295
  · subst h
    go_enter Try.func3, Try.ntmps3
    go_wp2_with fail
    go_wp2
    go_region_held3 (fun w' => w'.cell? ⟨w.heap.size, 0, none⟩ = some (.int .u32 0)) (go_keep) (first | (go_at_call 11; refine (idx2.make' 4294967295 (by omega) (by omega) _).mono ?_; rintro e w' ⟨rfl, rfl⟩))
    go_wp2
    go_ret
    exact ⟨rfl, by repeat (first | exact Grown.refl _ | apply Grown.drew | apply Grown.alloc)⟩
  · have h1 : (a0 == 4294967295) = false := by simpa using h
    have h2 : ((4294967295 - a0) == 0) = false := by simp; omega
    go_enter Try.func3, Try.ntmps3
    go_wp2
    go_region_held3 (fun w' => w'.cell? ⟨w.heap.size, 0, none⟩ = some (.int .u32 0)) (go_keep) (first | (go_at_call 11; refine (idx2.make' a0 (by omega) (by omega) _).mono ?_; rintro e w' ⟨rfl, rfl⟩))
    go_wp2
    go_ret
    exact ⟨rfl, by repeat (first | exact Grown.refl _ | apply Grown.drew | apply Grown.alloc)⟩
end Go.Proofs.Ytkmleifkceghlab.fnIndex32ZeroValueIsMaxSentinel
