/-
  The walk of FnTryToGetImportedEnumValueSameThroughAliases: For an import target every symbol on the alias chain from ref yields the same value and the same found as ref itself.
  Conditions: none beyond those of the given statement Rows.FnTryToGetImportedEnumValueSameThroughAliasesSaid.
-/
import Derived.Test.YtcndjkndmmcagaaDoorRows
import Derived.WalkKit
import Derived.ProofKit
import Derived.OpenShut
import Derived.ShutString
import Derived.ChangeOld
import Derived.Below
import Derived.Test.YtcndjkndmmcagaaDoorMl
import Derived.Test.YtcndjkndmmcagaaDoorOp
namespace Go.Proofs.YtcndjkndmmcagaaDoor.fnTryToGetImportedEnumValueSameThroughAliases
open Go.ChangeShapes Go.WideShapes Go.ChangeAt Go.RowKit
open Go.ChangeMaps (open_string shut_string)
set_option linter.unusedVariables false


/-- WHAT THE WALK IS TOLD OF A SLICE OF INTEGERS THAT CAME IN: it is nil; or it leads to a row of 'cap' cells, the numbers 'zs' (the first 'len' are its elements, the rest its spare room), each fitting its kind. -/
def IsRow (k : IntKind) (w : World) (a : Option Addr) (len cap : Nat) (zs : List Int) : Prop :=
  (a = none ∧ len = 0 ∧ cap = 0 ∧ zs = []) ∨
  ∃ x, a = some x ∧ len ≤ cap ∧ cap ≤ maxLen ∧ zs.length = cap ∧ (∀ i, i < zs.length → w.cell? (x.add i) = some (.int k (zs.getD i 0))) ∧ ∀ n ∈ zs, (Lit.int k n).wf = true

/-- what the walk is told of a slice of strings that came in -/
def IsStrs (w : World) (a : Option Addr) (len cap : Nat) (zs : List ByteArray) : Prop :=
  (a = none ∧ len = 0 ∧ cap = 0 ∧ zs = []) ∨
  ∃ x, a = some x ∧ len ≤ cap ∧ cap ≤ maxLen ∧ zs.length = cap ∧ (∀ i, i < zs.length → w.cell? (x.add i) = some (.string (zs.getD i ByteArray.empty))) ∧ ∀ s ∈ zs, s.size ≤ maxLen

open kit chain arena mp

theorem lenOf {w : World} {a : Option Addr} {len cap : Nat} {zs : List ByteArray} (h : IsStrs w a len cap zs) : len ≤ 9223372036854775807 := by
  rcases h with ⟨rfl, rfl, rfl, rfl⟩ | ⟨x, rfl, hl, hm, hz, hc, hw⟩
  · omega
  · unfold maxLen at hm; omega
theorem rowOf {w : World} {a : Option Addr} {len cap : Nat} {zs : List ByteArray} (h : IsStrs w a len cap zs) : Row w a len cap ((zs.take len).map Value.string) := by
  rcases h with ⟨rfl, rfl, rfl, rfl⟩ | ⟨x, rfl, hl, hm, hz, hc, hw⟩
  · exact Row.nil w
  · exact strRow hl hm hz hc
theorem lenInt {w : World} {k : IntKind} {a : Option Addr} {len cap : Nat} {zs : List Int} (h : IsRow k w a len cap zs) : len ≤ 9223372036854775807 := by
  rcases h with ⟨rfl, rfl, rfl, rfl⟩ | ⟨x, rfl, hl, hm, hz, hc, hw⟩
  · omega
  · unfold maxLen at hm; omega
theorem rowInt {w : World} {k : IntKind} {a : Option Addr} {len cap : Nat} {zs : List Int} (h : IsRow k w a len cap zs) : Row w a len cap ((zs.take len).map (Value.int k)) := by
  rcases h with ⟨rfl, rfl, rfl, rfl⟩ | ⟨x, rfl, hl, hm, hz, hc, hw⟩
  · exact Row.nil w
  · exact Row.of_cells hl hm hz hc
theorem walk (a0 : Option Addr) (len0 cap0 : Nat) (z0 : List Int) (a1 : Option Addr) (len1 cap1 : Nat) (z1 : List Int) (a2 : Int) (a3 : Option Addr) (len3 cap3 : Nat) (z3 : List ByteArray) (a4 : Option Addr) (len4 cap4 : Nat) (z4 : List Nat) (a5 : Option Addr) (len5 cap5 : Nat) (z5 : List Value) (a6 : Int) (a7 : ByteArray) (w : World) (w0 : IsRow .u8 w a0 len0 cap0 z0) (w1 : IsRow .i32 w a1 len1 cap1 z1) (w2 : (Lit.int .i32 a2).wf = true) (w3 : IsStrs w a3 len3 cap3 z3) (w4 : IsFlos w a4 len4 cap4 z4) (w5 : IsNest w a5 len5 cap5 z5) (w6 : (Lit.int .u32 a6).wf = true) (w7 : a7.size ≤ maxLen)
    (hi0 : w.cell? ⟨0, 0, none⟩ = some (.int .u32 4294967295)) (hi1 : w.cell? ⟨0, 1, none⟩ = some (.int .u32 4294967295)) :
    Calls Tryd.prog 3 #[.slice a0 len0 cap0, .slice a1 len1 cap1, .int .i32 a2, .slice a3 len3 cap3, .slice a4 len4 cap4, .slice a5 len5 cap5, .int .u32 a6, .string a7] w fun e w' => e = .returned (.bool true) ∧ Below w.heap.size w w' := by
  have HK : ∀ j, 0 ≤ (z0.take len0).getD j 0 ∧ (z0.take len0).getD j 0 ≤ 255 := by
    refine getD_mem (P := fun x => 0 ≤ x ∧ x ≤ 255) (fun x hx => ?_) (by omega)
    rcases w0 with ⟨rfl, rfl, rfl, rfl⟩ | ⟨y, rfl, hl, hm, hz, hc, hw⟩
    · simp at hx
    · exact wfb (hw x (List.mem_of_mem_take hx))
  have HB : ∀ j, -2147483648 ≤ lk (z1.take len1) j ∧ lk (z1.take len1) j ≤ 2147483647 := by
    refine getD_mem (P := fun x => -2147483648 ≤ x ∧ x ≤ 2147483647) (fun x hx => ?_) (by omega)
    rcases w1 with ⟨rfl, rfl, rfl, rfl⟩ | ⟨y, rfl, hl, hm, hz, hc, hw⟩
    · simp at hx
    · exact wfi (hw x (List.mem_of_mem_take hx))
  have ht := wfi w2
  obtain ⟨q0, q1⟩ := wfw w6
  obtain ⟨i, rfl⟩ := Int.eq_ofNat_of_zero_le q0
  have hm4 : len4 ≤ 9223372036854775807 := by
    obtain ⟨_, hl, hm, _⟩ := id w4
    unfold maxLen at hm; omega
  have hm5 : len5 ≤ 9223372036854775807 := by
    have := w5.2.2
    unfold maxLen at this; omega
  exact main a0 len0 cap0 _ a1 len1 cap1 _ a2 a3 len3 cap3 _ a4 len4 cap4 _ a5 len5 cap5 _ i a7 w (rowInt w0) (rowInt w1) (rowOf w3) w4 w5.1 w5.2.1 HK HB ht (by omega) ⟨hi0, hi1⟩ (lenInt w0) (lenInt w1) (lenOf w3) hm4 hm5
end Go.Proofs.YtcndjkndmmcagaaDoor.fnTryToGetImportedEnumValueSameThroughAliases
