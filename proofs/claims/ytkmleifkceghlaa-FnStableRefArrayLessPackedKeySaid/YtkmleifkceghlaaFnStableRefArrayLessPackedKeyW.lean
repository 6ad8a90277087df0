/-
  The walk of FnStableRefArrayLessPackedKey: (stableRefArray).Less holds of two elements exactly when StableSourceIndex<<32 | InnerIndex of the first is below that of the second, in both directions.
  Conditions: none beyond those of the given statement Rows.FnStableRefArrayLessPackedKeySaid.
-/
import Derived.Test.YtkmleifkceghlaaRows
import Derived.WalkKit
import Derived.ProofKit
import Derived.OpenShut
import Derived.Laws.BitsAllLaws
import Derived.Test.YtkmleifkceghlaaStable
namespace Go.Proofs.Ytkmleifkceghlaa.fnStableRefArrayLessPackedKey
open Go.ChangeShapes Go.WideShapes Go.ChangeAt Go.RowKit
set_option linter.unusedVariables false      -- a walk need not use every 'w<i>' (that an integer argument fits its kind)

open kit
theorem key (d t : Int) (hd0 : 0 ≤ d) (hd : d ≤ 4294967295) (ht0 : 0 ≤ t) (ht : t ≤ 4294967295) :
    bits .or .u64 (d * 4294967296) t = d * 4294967296 + t := by
  obtain ⟨x, rfl⟩ := Int.eq_ofNat_of_zero_le hd0
  obtain ⟨y, rfl⟩ := Int.eq_ofNat_of_zero_le ht0
  have e : ((x : Int) * 4294967296) = ((x * 4294967296 : Nat) : Int) := by omega
  rw [e, u64_or_nat _ _ (by omega) (by omega), nat_join 32 _ _ (by omega) (by omega)]
  omega
theorem walk (a0 : Int) (a1 : Int) (a2 : Int) (a3 : Int) (a4 : Int) (a5 : Int) (w0 : (Lit.int .u32 a0).wf = true) (w1 : (Lit.int .u32 a1).wf = true) (w2 : (Lit.int .u32 a2).wf = true) (w3 : (Lit.int .u32 a3).wf = true) (w4 : (Lit.int .u32 a4).wf = true) (w5 : (Lit.int .u32 a5).wf = true) (w : World) :
    Calls Try.prog 8 #[.int .u32 a0, .int .u32 a1, .int .u32 a2, .int .u32 a3, .int .u32 a4, .int .u32 a5] w fun e w' => e = .returned (.bool true) ∧ Below w.heap.size w w' := by
  have b0 := bounds_u32 w0
  have b2 := bounds_u32 w2
  have b3 := bounds_u32 w3
  have b5 := bounds_u32 w5
  have k1 := key a0 a2 (by omega) (by omega) (by omega) (by omega)
  have k2 := key a3 a5 (by omega) (by omega) (by omega) (by omega)
  have hk : stable.kless a0 a2 a3 a5 = decide (a0 * 4294967296 + a2 < a3 * 4294967296 + a5) := by
    rw [stable.kless, decide_eq_decide]; omega
  have hk' : stable.kless a3 a5 a0 a2 = decide (a3 * 4294967296 + a5 < a0 * 4294967296 + a2) := by
    rw [stable.kless, decide_eq_decide]; omega
  go_enter Try.func8, Try.ntmps8
  go_wp2_with fail
  refine (stable.new _ _ _ _).mono ?_
  rintro e w1 ⟨rfl, g1⟩
  go_wp2_with fail
  refine (stable.new _ _ _ _).mono ?_
  rintro e w2 ⟨rfl, g2⟩
  go_wp2_with fail
  have g3 := Kept.alloc (g1.trans g2) (Obj.cells #[Value.int IntKind.u32 a0, Value.int IntKind.u32 a1, Value.int IntKind.u32 a2, Value.int IntKind.u32 a3, Value.int IntKind.u32 a4, Value.int IntKind.u32 a5] 48)
  generalize hw : w2.alloc (Obj.cells #[Value.int IntKind.u32 a0, Value.int IntKind.u32 a1, Value.int IntKind.u32 a2, Value.int IntKind.u32 a3, Value.int IntKind.u32 a4, Value.int IntKind.u32 a5] 48) = w3 at *
  have c0 : w3.cell? ⟨w2.heap.size, 0, none⟩ = some (.int .u32 a0) := by rw [← hw]; simp
  have c1 : w3.cell? ⟨w2.heap.size, 1, none⟩ = some (.int .u32 a1) := by rw [← hw]; simp
  have c2 : w3.cell? ⟨w2.heap.size, 2, none⟩ = some (.int .u32 a2) := by rw [← hw]; simp
  have c3 : w3.cell? ⟨w2.heap.size, 3, none⟩ = some (.int .u32 a3) := by rw [← hw]; simp
  have c4 : w3.cell? ⟨w2.heap.size, 4, none⟩ = some (.int .u32 a4) := by rw [← hw]; simp
  have c5 : w3.cell? ⟨w2.heap.size, 5, none⟩ = some (.int .u32 a5) := by rw [← hw]; simp
  have hz : w2.heap.size < w3.heap.size := by rw [← hw]; simp
  clear hw
  refine (stable.less w2.heap.size 0 2 2 0 1 a0 a1 a2 a3 a4 a5 w3 hz (by omega) (by omega) (by omega) (by omega) c0 c1 c2 c3 c4 c5).mono ?_
  rintro e w4 ⟨rfl, g4⟩
  have hz4 := g4.size
  go_wp2_with (go_at_call 17; refine (stable.less w2.heap.size 0 2 2 1 0 a3 a4 a5 a0 a1 a2 w4 (by omega) (by omega) (by omega) (by omega) (by omega) (g4.cell c3) (g4.cell c4) (g4.cell c5) (g4.cell c0) (g4.cell c1) (g4.cell c2)).mono ?_; rintro e w5 ⟨rfl, g5⟩)
  go_ret
  exact ⟨by simp, (g3.trans (g4.trans g5)).below⟩
end Go.Proofs.Ytkmleifkceghlaa.fnStableRefArrayLessPackedKey
