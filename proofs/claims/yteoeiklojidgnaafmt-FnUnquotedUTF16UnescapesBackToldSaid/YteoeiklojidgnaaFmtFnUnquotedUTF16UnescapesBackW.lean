/-
  The walk of FnUnquotedUTF16UnescapesBack: what printUnquotedUTF16 appends reads back as the very units, the prefix stands, and nothing that was there is turned.
  Conditions: none beyond those of the given card Rows.FnUnquotedUTF16UnescapesBackToldSaid.
-/
import Derived.Test.YteoeiklojidgnaaFmtZl
namespace Go.Proofs.YteoeiklojidgnaaFmt.fnUnquotedUTF16UnescapesBack
open Go.ChangeShapes Go.WideShapes Go.ChangeAt Go.RowKit
open kit
set_option linter.unusedVariables false

/-- WHAT THE WALK IS TOLD OF A SLICE OF INTEGERS THAT CAME IN: it is nil; or it leads to a row of 'cap' cells, the numbers 'zs' (the first 'len' are its elements, the rest its spare room), each fitting its kind. -/
def IsRow (k : IntKind) (w : World) (a : Option Addr) (len cap : Nat) (zs : List Int) : Prop :=
  (a = none ∧ len = 0 ∧ cap = 0 ∧ zs = []) ∨
  ∃ x, a = some x ∧ len ≤ cap ∧ cap ≤ maxLen ∧ zs.length = cap ∧ (∀ i, i < zs.length → w.cell? (x.add i) = some (.int k (zs.getD i 0))) ∧ ∀ n ∈ zs, (Lit.int k n).wf = true

theorem wf16 {n : Int} (h : (Lit.int .u16 n).wf = true) : 0 ≤ n ∧ n ≤ 65535 := by
  simp only [Lit.wf, Bool.and_eq_true, decide_eq_true_eq] at h
  exact h

theorem walk (a0 : Option Addr) (len0 cap0 : Nat) (z0 : List Int) (a1 : Option Addr) (len1 cap1 : Nat) (z1 : List Int) (a2 : Int) (a3 : Int) (a4 : Bool) (a5 : Bool) (a6 : Int) (w : World) (w0 : IsRow .u8 w a0 len0 cap0 z0) (w1 : IsRow .u16 w a1 len1 cap1 z1) (w2 : (Lit.int .i32 a2).wf = true) (w3 : (Lit.int .u8 a3).wf = true) (w6 : (Lit.int .i64 a6).wf = true) :
    Calls Tryf.prog 3 #[.slice a0 len0 cap0, .slice a1 len1 cap1, .int .i32 a2, .int .u8 a3, .bool a4, .bool a5, .int .i64 a6] w fun e w' => e = .returned (.bool true) ∧ Below w.heap.size w w' := by
  have HA : Hid (Row w a0 len0 cap0 ((z0.take len0).map (Value.int .u8))) := by
    rcases w0 with ⟨rfl, rfl, rfl, rfl⟩ | ⟨x, rfl, hl, hm, hz, hc, hw⟩
    · exact Lib.hid (Row.nil w)
    · exact Lib.hid (Row.of_cells hl hm hz hc)
  have HB : Hid (Row w a1 len1 cap1 ((z1.take len1).map (Value.int .u16))) := by
    rcases w1 with ⟨rfl, rfl, rfl, rfl⟩ | ⟨x, rfl, hl, hm, hz, hc, hw⟩
    · exact Lib.hid (Row.nil w)
    · exact Lib.hid (Row.of_cells hl hm hz hc)
  have hU : ∀ u ∈ z1.take len1, 0 ≤ u ∧ u < 65536 := by
    intro u hu
    have hm := List.mem_of_mem_take hu
    rcases w1 with ⟨_, _, _, rfl⟩ | ⟨x, _, _, _, _, _, hw⟩
    · cases hm
    · have := hw u hm
      have h2 := wf16 this
      omega
  have h6 : -9223372036854775808 ≤ a6 ∧ a6 ≤ 9223372036854775807 := by
    simp only [Lit.wf, Bool.and_eq_true, decide_eq_true_eq] at w6
    exact w6
  exact uz.main a0 len0 cap0 _ a1 len1 cap1 _ a2 a3 a6 a4 a5 w HA.out HB.out hU h6.2 h6.1
end Go.Proofs.YteoeiklojidgnaaFmt.fnUnquotedUTF16UnescapesBack
