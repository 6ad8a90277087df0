/-
  The walk of FnChunkOrderLessIsStrictTotalOrder: (chunkOrderArray).Less is a strict total order on (distance, tieBreaker): irreflexive, asymmetric, transitive, total but for equal keys, and blind to the source index.
  Conditions: none beyond those of the given statement Rows.FnChunkOrderLessIsStrictTotalOrderSaid.
-/
import Derived.Test.YtkmleifkceghlabRows
import Derived.WalkKit
import Derived.ProofKit
import Derived.OpenShut
import Derived.Test.YtkmleifkceghlabChunk
namespace Go.Proofs.Ytkmleifkceghlab.fnChunkOrderLessIsStrictTotalOrder
open Go.ChangeShapes Go.WideShapes Go.ChangeAt Go.RowKit
open chunk
set_option linter.unusedVariables false      -- a walk need not use every 'w<i>' (that an integer argument fits its kind)

set_option maxHeartbeats 4000000 in
theorem walk (a0 : Int) (a1 : Int) (a2 : Int) (a3 : Int) (a4 : Int) (a5 : Int) (a6 : Int) (a7 : Int) (w0 : (Lit.int .u32 a0).wf = true) (w1 : (Lit.int .u32 a1).wf = true) (w2 : (Lit.int .u32 a2).wf = true) (w3 : (Lit.int .u32 a3).wf = true) (w4 : (Lit.int .u32 a4).wf = true) (w5 : (Lit.int .u32 a5).wf = true) (w6 : (Lit.int .u32 a6).wf = true) (w7 : (Lit.int .u32 a7).wf = true) (w : World) :
    Calls Try.prog 8 #[.int .u32 a0, .int .u32 a1, .int .u32 a2, .int .u32 a3, .int .u32 a4, .int .u32 a5, .int .u32 a6, .int .u32 a7] w fun e w' => e = .returned (.bool true) ∧ Grown w w' := by
  have hb : ∀ b : Bool, b = false ∨ b = true := by intro b; cases b <;> simp
  have hirr : kless a0 a1 a0 a1 = false := by simp [kless]
  rcases hb (kless a0 a1 a2 a3) with p1 | p1 <;> rcases hb (kless a2 a3 a0 a1) with p2 | p2 <;> rcases hb (kless a2 a3 a4 a5) with p3 | p3 <;> rcases hb (kless a0 a1 a4 a5) with p4 | p4 <;> rcases hb (a0 == a2) with p5 | p5 <;> rcases hb (a1 == a3) with p6 | p6 <;> first
    | (exfalso; simp [kless] at p1 p2 p3 p4 p5 p6; omega)
    | skip
  all_goals
    go_enter Try.func8, Try.ntmps8
    go_wp2_with (go_at_call 18; refine (chunk.less _ _ _ _ _ _ _).mono ?_; rintro e w' ⟨rfl, hg⟩)
    go_ret
    exact ⟨rfl, by repeat (first | assumption | exact Grown.refl _ | refine chunk.Grown.trans ?_ (by assumption))⟩
end Go.Proofs.Ytkmleifkceghlab.fnChunkOrderLessIsStrictTotalOrder
