/-
  The walk of FnSortedCrossChunkExportItemsSortedSet: For every table of stable indices and every list of refs whose sources lie in the table (ties allowed), sortedCrossChunkExportItems returns each distinct ref exactly once, each tagged with its source's stable index, and no entry is Less than the one before it.
  Conditions: none beyond those of the given statement Rows.FnSortedCrossChunkExportItemsSortedSetSaid.
-/
import Derived.Test.YtbnkhpbgibgahaaRows
import Derived.WalkKit
import Derived.ProofKit
import Derived.OpenShut
import Derived.ShutString
import Derived.ChangeOld
import Derived.Below
import Derived.Test.YtbnkhpbgibgahaaXb
namespace Go.Proofs.Ytbnkhpbgibgahaa.fnSortedCrossChunkExportItemsSortedSet
open Go.ChangeShapes Go.WideShapes Go.ChangeAt Go.RowKit
open Go.ChangeMaps (open_string shut_string)
set_option linter.unusedVariables false


/-- WHAT THE WALK IS TOLD OF A SLICE OF INTEGERS THAT CAME IN: it is nil; or it leads to a row of 'cap' cells, the numbers 'zs' (the first 'len' are its elements, the rest its spare room), each fitting its kind. -/
def IsRow (k : IntKind) (w : World) (a : Option Addr) (len cap : Nat) (zs : List Int) : Prop :=
  (a = none ∧ len = 0 ∧ cap = 0 ∧ zs = []) ∨
  ∃ x, a = some x ∧ len ≤ cap ∧ cap ≤ maxLen ∧ zs.length = cap ∧ (∀ i, i < zs.length → w.cell? (x.add i) = some (.int k (zs.getD i 0))) ∧ ∀ n ∈ zs, (Lit.int k n).wf = true

open kit

theorem wf32 {n : Int} (h : (Lit.int .u32 n).wf = true) : 0 ≤ n ∧ n ≤ 4294967295 := by
  simp only [Lit.wf, Bool.and_eq_true, decide_eq_true_eq] at h
  exact h
theorem all32 {w : World} {a : Option Addr} {len cap : Nat} {zs : List Int} (h : IsRow .u32 w a len cap zs) : ∀ j, 0 ≤ (zs.take len).getD j 0 ∧ (zs.take len).getD j 0 ≤ 4294967295 := fun j => by
  rcases Nat.lt_or_ge j (zs.take len).length with hj | hj
  case inr => rw [List.getD_eq_getElem?_getD, List.getElem?_eq_none hj]; simp
  rw [List.getD_eq_getElem?_getD, List.getElem?_eq_getElem hj, Option.getD_some]
  have hm := List.mem_of_mem_take (List.getElem_mem hj)
  rcases h with ⟨rfl, rfl, rfl, rfl⟩ | ⟨x, rfl, hl, hc, hz, hcell, hw⟩
  · simp at hj
  · exact wf32 (hw _ hm)
theorem rowOf {w : World} {a : Option Addr} {len cap : Nat} {zs : List Int} (h : IsRow .u32 w a len cap zs) : Row w a len cap ((zs.take len).map (Value.int .u32)) := by
  rcases h with ⟨rfl, rfl, rfl, rfl⟩ | ⟨x, rfl, hl, hm, hz, hc, hw⟩
  · exact Row.nil w
  · exact Row.of_cells hl hm hz hc
theorem walk (a0 : Option Addr) (len0 cap0 : Nat) (z0 : List Int) (a1 : Option Addr) (len1 cap1 : Nat) (z1 : List Int) (a2 : Option Addr) (len2 cap2 : Nat) (z2 : List Int) (w : World) (w0 : IsRow .u32 w a0 len0 cap0 z0) (w1 : IsRow .u32 w a1 len1 cap1 z1) (w2 : IsRow .u32 w a2 len2 cap2 z2) :
    Calls Try.prog 4 #[.slice a0 len0 cap0, .slice a1 len1 cap1, .slice a2 len2 cap2] w fun e w' => e = .returned (.bool true) ∧ Below w.heap.size w w' :=
  xb.main a0 len0 cap0 _ a1 len1 cap1 _ a2 len2 cap2 _ w (rowOf w0) (rowOf w1) (rowOf w2) (all32 w1) (all32 w2)
end Go.Proofs.Ytbnkhpbgibgahaa.fnSortedCrossChunkExportItemsSortedSet
