/-
  The walk of FnMangledPropNameIsRootMangledElseOriginal: For symbols whose links form a chain to a root, mangledPropName answers the root's mangled name, or else its own name.
  Conditions: none beyond those of the given statement Rows.FnMangledPropNameIsRootMangledElseOriginalSaid.
-/
import Derived.Test.YthjoelmmpmnfeaaDoorRows
import Derived.WalkKit
import Derived.ProofKit
import Derived.OpenShut
import Derived.ShutString
import Derived.ChangeOld
import Derived.Below
import Derived.Test.YthjoelmmpmnfeaaDoorMl
namespace Go.Proofs.YthjoelmmpmnfeaaDoor.fnMangledPropNameIsRootMangledElseOriginal
open Go.ChangeShapes Go.WideShapes Go.ChangeAt Go.RowKit
open Go.ChangeMaps (open_string shut_string)
set_option linter.unusedVariables false


/-- WHAT THE WALK IS TOLD OF A SLICE OF INTEGERS THAT CAME IN: it is nil; or it leads to a row of 'cap' cells, the numbers 'zs' (the first 'len' are its elements, the rest its spare room), each fitting its kind. -/
def IsRow (k : IntKind) (w : World) (a : Option Addr) (len cap : Nat) (zs : List Int) : Prop :=
  (a = none ∧ len = 0 ∧ cap = 0 ∧ zs = []) ∨
  ∃ x, a = some x ∧ len ≤ cap ∧ cap ≤ maxLen ∧ zs.length = cap ∧ (∀ i, i < zs.length → w.cell? (x.add i) = some (.int k (zs.getD i 0))) ∧ ∀ n ∈ zs, (Lit.int k n).wf = true

/-- what the walk is told of a slice of strings that came in -/
def IsStrs (w : World) (a : Option Addr) (len cap : Nat) (zs : List ByteArray) : Prop :=
  (a = none ∧ len = 0 ∧ cap = 0 ∧ zs = []) ∨
  ∃ x, a = some x ∧ len ≤ cap ∧ cap ≤ maxLen ∧ zs.length = cap ∧ (∀ i, i < zs.length → w.cell? (x.add i) = some (.string (zs.getD i ByteArray.empty))) ∧ ∀ s ∈ zs, s.size ≤ maxLen

/-- what the walk is told of a slice of bools that came in -/
def IsBools (w : World) (a : Option Addr) (len cap : Nat) (zs : List Bool) : Prop :=
  (a = none ∧ len = 0 ∧ cap = 0 ∧ zs = []) ∨
  ∃ x, a = some x ∧ len ≤ cap ∧ cap ≤ maxLen ∧ zs.length = cap ∧ ∀ i, i < zs.length → w.cell? (x.add i) = some (.bool (zs.getD i false))
theorem isBools_of {W : World} {x : Addr} {len cap : Nat} {B : Nat → Bool} (hl : len ≤ cap) (hm : cap ≤ maxLen) (hcell : ∀ j, j < cap → W.cell? (x.add j) = some (.bool (B j))) : IsBools W (some x) len cap ((List.range cap).map B) := .inr ⟨x, rfl, hl, hm, by simp, fun i hi => by
  have hi2 : i < cap := by simpa using hi
  rw [hcell i hi2]
  simp [hi2]⟩

open kit chain arena mp

theorem lenOf {w : World} {a : Option Addr} {len cap : Nat} {zs : List ByteArray} (h : IsStrs w a len cap zs) : len ≤ 9223372036854775807 := by
  rcases h with ⟨rfl, rfl, rfl, rfl⟩ | ⟨x, rfl, hl, hm, hz, hc, hw⟩
  · omega
  · unfold maxLen at hm; omega
theorem rowOf {w : World} {a : Option Addr} {len cap : Nat} {zs : List ByteArray} (h : IsStrs w a len cap zs) : Row w a len cap ((zs.take len).map Value.string) := by
  rcases h with ⟨rfl, rfl, rfl, rfl⟩ | ⟨x, rfl, hl, hm, hz, hc, hw⟩
  · exact Row.nil w
  · exact strRow hl hm hz hc
theorem walk (a0 : Option Addr) (len0 cap0 : Nat) (z0 : List ByteArray) (a1 : Option Addr) (len1 cap1 : Nat) (z1 : List Int) (a2 : Option Addr) (len2 cap2 : Nat) (z2 : List Bool) (a3 : Option Addr) (len3 cap3 : Nat) (z3 : List ByteArray) (a4 : Int) (w : World) (w0 : IsStrs w a0 len0 cap0 z0) (w1 : IsRow .i32 w a1 len1 cap1 z1) (w2 : IsBools w a2 len2 cap2 z2) (w3 : IsStrs w a3 len3 cap3 z3) (w4 : (Lit.int .u32 a4).wf = true)
    (hi0 : w.cell? ⟨0, 0, none⟩ = some (.int .u32 4294967295)) (hi1 : w.cell? ⟨0, 1, none⟩ = some (.int .u32 4294967295)) :
    Calls Tryd.prog 3 #[.slice a0 len0 cap0, .slice a1 len1 cap1, .slice a2 len2 cap2, .slice a3 len3 cap3, .int .u32 a4] w fun e w' => e = .returned (.bool true) ∧ Below w.heap.size w w' := by
  have hm1 : len1 ≤ 9223372036854775807 := by
    rcases w1 with ⟨rfl, rfl, rfl, rfl⟩ | ⟨x, rfl, hl, hm, hz, hc, hw⟩
    · omega
    · unfold maxLen at hm; omega
  have hm2 : len2 ≤ 9223372036854775807 := by
    rcases w2 with ⟨rfl, rfl, rfl, rfl⟩ | ⟨x, rfl, hl, hm, hz, hc⟩
    · omega
    · unfold maxLen at hm; omega
  have H1 : Row w a1 len1 cap1 ((z1.take len1).map (Value.int .i32)) := by
    rcases w1 with ⟨rfl, rfl, rfl, rfl⟩ | ⟨x, rfl, hl, hm, hz, hc, hw⟩
    · exact Row.nil w
    · exact Row.of_cells hl hm hz hc
  have H2 : Row w a2 len2 cap2 ((z2.take len2).map Value.bool) := by
    rcases w2 with ⟨rfl, rfl, rfl, rfl⟩ | ⟨x, rfl, hl, hm, hz, hc⟩
    · exact Row.nil w
    · exact boolRow hl hm hz hc
  have HB : ∀ j, -2147483648 ≤ lk (z1.take len1) j ∧ lk (z1.take len1) j ≤ 2147483647 := by
    refine getD_mem (P := fun x => -2147483648 ≤ x ∧ x ≤ 2147483647) (fun x hx => ?_) (by omega)
    rcases w1 with ⟨rfl, rfl, rfl, rfl⟩ | ⟨y, rfl, hl, hm, hz, hc, hw⟩
    · simp at hx
    · exact wfi (hw x (List.mem_of_mem_take hx))
  obtain ⟨q0, q1⟩ := wfw w4
  obtain ⟨i, rfl⟩ := Int.eq_ofNat_of_zero_le q0
  exact main a0 len0 cap0 _ a1 len1 cap1 _ a2 len2 cap2 _ a3 len3 cap3 _ i w (rowOf w0) H1 H2 (rowOf w3) HB (by omega) ⟨hi0, hi1⟩ (lenOf w0) hm1 hm2 (lenOf w3)
end Go.Proofs.YthjoelmmpmnfeaaDoor.fnMangledPropNameIsRootMangledElseOriginal
