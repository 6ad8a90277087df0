/-
  The walk of FnShouldRemoveImportExportStmtOnlyAppends: The law answers true for every list, format, file and place: the call only appends, at the place, and nothing when it answers false.
  Conditions: none beyond those of the given statement Rows.FnShouldRemoveImportExportStmtOnlyAppendsSaid.
-/
import Derived.Test.YtilhckihpgfkfaaDoorRows
import Derived.WalkKit
import Derived.ProofKit
import Derived.OpenShut
import Derived.ShutString
import Derived.Test.YtilhckihpgfkfaaDoorSz
namespace Go.Proofs.YtilhckihpgfkfaaDoor.fnShouldRemoveImportExportStmtOnlyAppends
open Go.ChangeShapes Go.WideShapes Go.ChangeAt Go.RowKit
open Go.ChangeMaps (open_string shut_string)
set_option linter.unusedVariables false      -- a walk need not use every 'w<i>' (that an integer argument fits its kind)

open kit sr

theorem wf16 {n : Int} (h : (Lit.int .u16 n).wf = true) : 0 ≤ n ∧ n ≤ 65535 := by
  simp only [Lit.wf, Bool.and_eq_true, decide_eq_true_eq] at h
  exact h
theorem wf8 {n : Int} (h : (Lit.int .u8 n).wf = true) : 0 ≤ n ∧ n ≤ 255 := by
  simp only [Lit.wf, Bool.and_eq_true, decide_eq_true_eq] at h
  exact h
theorem wf32 {n : Int} (h : (Lit.int .u32 n).wf = true) : 0 ≤ n ∧ n ≤ 4294967295 := by
  simp only [Lit.wf, Bool.and_eq_true, decide_eq_true_eq] at h
  exact h
theorem walk (a0 : Int) (a1 : Int) (a2 : Bool) (a3 : Bool) (a4 : Int) (a5 : Int) (a6 : Int) (a7 : Bool) (a8 : Bool) (a9 : Int) (w0 : (Lit.int .u16 a0).wf = true) (w1 : (Lit.int .u8 a1).wf = true) (w4 : (Lit.int .u32 a4).wf = true) (_w5 : (Lit.int .u32 a5).wf = true) (w6 : (Lit.int .u8 a6).wf = true) (_w9 : (Lit.int .i32 a9).wf = true) (w : World)
    (hi0 : w.cell? ⟨0, 0, none⟩ = some (.int .u32 4294967295)) (hi1 : w.cell? ⟨0, 1, none⟩ = some (.int .u32 4294967295)) :
    Calls Tryd.prog 3 #[.int .u16 a0, .int .u8 a1, .bool a2, .bool a3, .int .u32 a4, .int .u32 a5, .int .u8 a6, .bool a7, .bool a8, .int .i32 a9] w fun e w' => e = .returned (.bool true) ∧ Below w.heap.size w w' := by
  obtain ⟨p0, q0⟩ := wf16 w0
  obtain ⟨p1, q1⟩ := wf8 w1
  obtain ⟨p4, q4⟩ := wf32 w4
  obtain ⟨p6, q6⟩ := wf8 w6
  obtain ⟨n, rfl⟩ := Int.eq_ofNat_of_zero_le p0
  obtain ⟨ns, rfl⟩ := Int.eq_ofNat_of_zero_le p4
  exact (law w n a1 a2 a3 ns a5 a6 a7 a8 a9 (by omega) p1 p6 hi0 hi1).mono fun e w' h => ⟨h.1, h.2⟩
end Go.Proofs.YtilhckihpgfkfaaDoor.fnShouldRemoveImportExportStmtOnlyAppends
