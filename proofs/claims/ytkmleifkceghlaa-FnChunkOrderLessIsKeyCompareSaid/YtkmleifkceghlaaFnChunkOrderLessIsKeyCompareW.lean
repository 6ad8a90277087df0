/-
  The walk of FnChunkOrderLessIsKeyCompare: (chunkOrderArray).Less says a before b exactly when distance<<32 | tieBreaker of a is below that of b, for any two entries.
  Conditions: none beyond those of the given statement Rows.FnChunkOrderLessIsKeyCompareSaid.
-/
import Derived.Test.YtkmleifkceghlaaRows
import Derived.WalkKit
import Derived.ProofKit
import Derived.OpenShut
import Derived.Laws.BitsAllLaws
import Derived.Test.YtkmleifkceghlaaChunk
namespace Go.Proofs.Ytkmleifkceghlaa.fnChunkOrderLessIsKeyCompare
open Go.ChangeShapes Go.WideShapes Go.ChangeAt Go.RowKit
set_option linter.unusedVariables false      -- a walk need not use every 'w<i>' (that an integer argument fits its kind)

theorem key (d t : Int) (hd0 : 0 ≤ d) (hd : d ≤ 4294967295) (ht0 : 0 ≤ t) (ht : t ≤ 4294967295) :
    bits .or .u64 (d * 4294967296) t = d * 4294967296 + t := by
  obtain ⟨x, rfl⟩ := Int.eq_ofNat_of_zero_le hd0
  obtain ⟨y, rfl⟩ := Int.eq_ofNat_of_zero_le ht0
  have e : ((x : Int) * 4294967296) = ((x * 4294967296 : Nat) : Int) := by omega
  rw [e, u64_or_nat _ _ (by omega) (by omega), nat_join 32 _ _ (by omega) (by omega)]
  omega
theorem walk (a0 : Int) (a1 : Int) (a2 : Int) (a3 : Int) (a4 : Int) (a5 : Int) (w0 : (Lit.int .u32 a0).wf = true) (w1 : (Lit.int .u32 a1).wf = true) (w2 : (Lit.int .u32 a2).wf = true) (w3 : (Lit.int .u32 a3).wf = true) (w4 : (Lit.int .u32 a4).wf = true) (w5 : (Lit.int .u32 a5).wf = true) (w : World) :
    Calls Try.prog 6 #[.int .u32 a0, .int .u32 a1, .int .u32 a2, .int .u32 a3, .int .u32 a4, .int .u32 a5] w fun e w' => e = .returned (.bool true) ∧ Grown w w' := by
  have b1 := bounds_u32 w1
  have b2 := bounds_u32 w2
  have b4 := bounds_u32 w4
  have b5 := bounds_u32 w5
  have k1 := key a1 a2 (by omega) (by omega) (by omega) (by omega)
  have k2 := key a4 a5 (by omega) (by omega) (by omega) (by omega)
  have hk : chunk.kless a1 a2 a4 a5 = decide (a1 * 4294967296 + a2 < a4 * 4294967296 + a5) := by
    rw [chunk.kless, decide_eq_decide]; omega
  go_enter Try.func6, Try.ntmps6
  go_wp2_with (go_at_call 14; refine (chunk.less _ _ _ _ _ _ _).mono ?_; rintro e w' ⟨rfl, hg⟩)
  go_ret
  exact ⟨by simp, by assumption⟩
end Go.Proofs.Ytkmleifkceghlaa.fnChunkOrderLessIsKeyCompare
