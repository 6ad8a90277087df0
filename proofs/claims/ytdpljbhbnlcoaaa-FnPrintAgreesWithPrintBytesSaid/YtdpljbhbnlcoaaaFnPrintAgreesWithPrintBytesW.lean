/-
  The walk of FnPrintAgreesWithPrintBytes: Two printers that start on the same prefix and are fed the same texts, one by print, the other by printBytes wherever useBytes says so, end with equal buffers.
  Conditions: none beyond those of the given statement Rows.FnPrintAgreesWithPrintBytesSaid.
-/
import Derived.Test.YtdpljbhbnlcoaaaRows
import Derived.WalkKit
import Derived.ProofKit
import Derived.OpenShut
import Derived.ShutString
import Derived.ChangeOld
import Derived.Below
import Derived.Test.YtdpljbhbnlcoaaaAg4
namespace Go.Proofs.Ytdpljbhbnlcoaaa.fnPrintAgreesWithPrintBytes
open Go.ChangeShapes Go.WideShapes Go.ChangeAt Go.RowKit
open Go.ChangeMaps (open_string shut_string)
set_option linter.unusedVariables false


/-- WHAT THE WALK IS TOLD OF A SLICE OF INTEGERS THAT CAME IN: it is nil; or it leads to a row of 'cap' cells, the numbers 'zs' (the first 'len' are its elements, the rest its spare room), each fitting its kind. -/
def IsRow (k : IntKind) (w : World) (a : Option Addr) (len cap : Nat) (zs : List Int) : Prop :=
  (a = none ∧ len = 0 ∧ cap = 0 ∧ zs = []) ∨
  ∃ x, a = some x ∧ len ≤ cap ∧ cap ≤ maxLen ∧ zs.length = cap ∧ (∀ i, i < zs.length → w.cell? (x.add i) = some (.int k (zs.getD i 0))) ∧ ∀ n ∈ zs, (Lit.int k n).wf = true

/-- what the walk is told of a slice of strings that came in -/
def IsStrs (w : World) (a : Option Addr) (len cap : Nat) (zs : List ByteArray) : Prop :=
  (a = none ∧ len = 0 ∧ cap = 0 ∧ zs = []) ∨
  ∃ x, a = some x ∧ len ≤ cap ∧ cap ≤ maxLen ∧ zs.length = cap ∧ (∀ i, i < zs.length → w.cell? (x.add i) = some (.string (zs.getD i ByteArray.empty))) ∧ ∀ s ∈ zs, s.size ≤ maxLen

/-- what the walk is told of a slice of bools that came in -/
def IsBools (w : World) (a : Option Addr) (len cap : Nat) (zs : List Bool) : Prop :=
  (a = none ∧ len = 0 ∧ cap = 0 ∧ zs = []) ∨
  ∃ x, a = some x ∧ len ≤ cap ∧ cap ≤ maxLen ∧ zs.length = cap ∧ ∀ i, i < zs.length → w.cell? (x.add i) = some (.bool (zs.getD i false))
theorem isBools_of {W : World} {x : Addr} {len cap : Nat} {B : Nat → Bool} (hl : len ≤ cap) (hm : cap ≤ maxLen) (hcell : ∀ j, j < cap → W.cell? (x.add j) = some (.bool (B j))) : IsBools W (some x) len cap ((List.range cap).map B) := .inr ⟨x, rfl, hl, hm, by simp, fun i hi => by
  have hi2 : i < cap := by simpa using hi
  rw [hcell i hi2]
  simp [hi2]⟩

open kit pr ag

theorem strs_of {w : World} {a : Option Addr} {len cap : Nat} {zs : List ByteArray} (h : IsStrs w a len cap zs) : Strs w a len zs ∧ len ≤ maxLen := by
  rcases h with ⟨rfl, rfl, rfl, rfl⟩ | ⟨x, rfl, hl, hm, hz, hc, hw⟩
  · exact ⟨⟨fun h => absurd h (by omega), fun i => by simp only [List.getD_eq_getElem?_getD, List.getElem?_nil, Option.getD_none]; show (0 : Nat) ≤ _; exact Nat.zero_le _⟩, by unfold maxLen; omega⟩
  · refine ⟨⟨fun h0 => ?_, fun i => ?_⟩, by omega⟩
    · have h1 := hc 0 (by omega)
      have hs : x.spot = none := by simpa [Addr.add] using World.cell?_spot h1
      obtain ⟨b, off, sp⟩ := x
      simp only at hs
      subst hs
      refine ⟨b, off, rfl, World.block_lt_of_cell? w _ h1, fun i hi => ?_⟩
      have := hc i (by omega)
      rwa [Addr.add_lit] at this
    · rcases Nat.lt_or_ge i zs.length with hi | hi
      · rw [List.getD_eq_getElem?_getD, List.getElem?_eq_getElem hi]
        exact hw _ (List.getElem_mem hi)
      · rw [List.getD_eq_getElem?_getD, List.getElem?_eq_none hi]
        show (0 : Nat) ≤ _
        exact Nat.zero_le _
theorem bools_of {w : World} {a : Option Addr} {len cap : Nat} {zs : List Bool} (h : IsBools w a len cap zs) : Bools w a len zs := by
  rcases h with ⟨rfl, rfl, rfl, rfl⟩ | ⟨x, rfl, hl, hm, hz, hc⟩
  · exact fun h => absurd h (by omega)
  · intro h0
    have h1 := hc 0 (by omega)
    have hs : x.spot = none := by simpa [Addr.add] using World.cell?_spot h1
    obtain ⟨b, off, sp⟩ := x
    simp only at hs
    subst hs
    refine ⟨b, off, rfl, World.block_lt_of_cell? w _ h1, fun i hi => ?_⟩
    have := hc i (by omega)
    rwa [Addr.add_lit] at this

theorem walk (a0 : Option Addr) (len0 cap0 : Nat) (z0 : List Int) (a1 : Option Addr) (len1 cap1 : Nat) (z1 : List ByteArray) (a2 : Option Addr) (len2 cap2 : Nat) (z2 : List Bool) (w : World) (w0 : IsRow .u8 w a0 len0 cap0 z0) (w1 : IsStrs w a1 len1 cap1 z1) (w2 : IsBools w a2 len2 cap2 z2) :
    Calls Try.prog 3 #[.slice a0 len0 cap0, .slice a1 len1 cap1, .slice a2 len2 cap2] w fun e w' => e = .returned (.bool true) ∧ Below w.heap.size w w' := by
  have H0 : Hid (Row w a0 len0 cap0 ((z0.take len0).map (Value.int .u8))) := by
    rcases w0 with ⟨rfl, rfl, rfl, rfl⟩ | ⟨x, rfl, hl, hm, hz, hc, hw⟩
    · exact Lib.hid (Row.nil w)
    · exact Lib.hid (Row.of_cells hl hm hz hc)
  exact main a0 len0 cap0 _ a1 len1 cap1 z1 a2 len2 cap2 z2 w H0.out (strs_of w1).1 (bools_of w2) (strs_of w1).2
end Go.Proofs.Ytdpljbhbnlcoaaa.fnPrintAgreesWithPrintBytes
