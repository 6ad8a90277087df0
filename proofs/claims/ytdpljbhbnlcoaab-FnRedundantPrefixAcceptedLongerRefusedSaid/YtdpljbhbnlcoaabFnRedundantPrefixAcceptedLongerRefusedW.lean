/-
  The walk of FnRedundantPrefixAcceptedLongerRefused: Every beginning of a list of layer and supports conditions makes it redundant, and no strictly longer list that extends it does.
  Conditions: none beyond those of the given statement Rows.FnRedundantPrefixAcceptedLongerRefusedSaid.
-/
import Derived.Test.YtdpljbhbnlcoaabRows
import Derived.WalkKit
import Derived.ProofKit
import Derived.OpenShut
import Derived.ShutString
import Derived.ChangeOld
import Derived.Below
import Derived.Test.YtdpljbhbnlcoaabRn6
namespace Go.Proofs.Ytdpljbhbnlcoaab.fnRedundantPrefixAcceptedLongerRefused
open Go.ChangeShapes Go.WideShapes Go.ChangeAt Go.RowKit
open Go.ChangeMaps (open_string shut_string)
set_option linter.unusedVariables false


/-- WHAT THE WALK IS TOLD OF A SLICE OF INTEGERS THAT CAME IN: it is nil; or it leads to a row of 'cap' cells, the numbers 'zs' (the first 'len' are its elements, the rest its spare room), each fitting its kind. -/
def IsRow (k : IntKind) (w : World) (a : Option Addr) (len cap : Nat) (zs : List Int) : Prop :=
  (a = none ∧ len = 0 ∧ cap = 0 ∧ zs = []) ∨
  ∃ x, a = some x ∧ len ≤ cap ∧ cap ≤ maxLen ∧ zs.length = cap ∧ (∀ i, i < zs.length → w.cell? (x.add i) = some (.int k (zs.getD i 0))) ∧ ∀ n ∈ zs, (Lit.int k n).wf = true

open kit rd

theorem wf16 {n : Int} (h : (Lit.int .u16 n).wf = true) : 0 ≤ n ∧ n ≤ 65535 := by
  simp only [Lit.wf, Bool.and_eq_true, decide_eq_true_eq] at h
  exact h
theorem all16 {w : World} {a : Option Addr} {len cap : Nat} {zs : List Int} (h : IsRow .u16 w a len cap zs) : ∀ j, 0 ≤ (zs.take len).getD j 0 ∧ (zs.take len).getD j 0 ≤ 65535 := fun j => by
  rcases Nat.lt_or_ge j (zs.take len).length with hj | hj
  case inr => rw [List.getD_eq_getElem?_getD, List.getElem?_eq_none hj]; simp
  rw [List.getD_eq_getElem?_getD, List.getElem?_eq_getElem hj, Option.getD_some]
  have hm := List.mem_of_mem_take (List.getElem_mem hj)
  rcases h with ⟨rfl, rfl, rfl, rfl⟩ | ⟨x, rfl, hl, hc, hz, hcell, hw⟩
  · simp at hj
  · exact wf16 (hw _ hm)
theorem walk (a0 : Option Addr) (len0 cap0 : Nat) (z0 : List Int) (a1 : Option Addr) (len1 cap1 : Nat) (z1 : List Int) (a2 : Int) (w : World) (w0 : IsRow .u16 w a0 len0 cap0 z0) (w1 : IsRow .u16 w a1 len1 cap1 z1) (w2 : (Lit.int .i64 a2).wf = true) :
    Calls Try.prog 3 #[.slice a0 len0 cap0, .slice a1 len1 cap1, .int .i64 a2] w fun e w' => e = .returned (.bool true) ∧ Below w.heap.size w w' := by
  have H0 : Hid (Row w a0 len0 cap0 ((z0.take len0).map (Value.int .u16))) := by
    rcases w0 with ⟨rfl, rfl, rfl, rfl⟩ | ⟨x, rfl, hl, hm, hz, hc, hw⟩
    · exact Lib.hid (Row.nil w)
    · exact Lib.hid (Row.of_cells hl hm hz hc)
  have H1 : Hid (Row w a1 len1 cap1 ((z1.take len1).map (Value.int .u16))) := by
    rcases w1 with ⟨rfl, rfl, rfl, rfl⟩ | ⟨x, rfl, hl, hm, hz, hc, hw⟩
    · exact Lib.hid (Row.nil w)
    · exact Lib.hid (Row.of_cells hl hm hz hc)
  exact main a0 len0 cap0 _ a1 len1 cap1 _ a2 w H0.out H1.out (all16 w0) (all16 w1)
end Go.Proofs.Ytdpljbhbnlcoaab.fnRedundantPrefixAcceptedLongerRefused
