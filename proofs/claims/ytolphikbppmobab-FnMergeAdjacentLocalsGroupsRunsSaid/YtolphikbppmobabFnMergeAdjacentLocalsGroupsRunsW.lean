/-
  The walk of FnMergeAdjacentLocalsGroupsRuns: The merged list has one statement for each maximal run of adjacent locals of one kind and export flag, with the run's first location and all of its declarations in order; every other statement stands alone.
  Conditions: none beyond those of the given statement Rows.FnMergeAdjacentLocalsGroupsRunsSaid.
-/
import Derived.Test.YtolphikbppmobabRows
import Derived.WalkKit
import Derived.ProofKit
import Derived.OpenShut
import Derived.ShutString
import Derived.ChangeOld
import Derived.Below
import Derived.Test.YtolphikbppmobabMw
namespace Go.Proofs.Ytolphikbppmobab.fnMergeAdjacentLocalsGroupsRuns
open Go.ChangeShapes Go.WideShapes Go.ChangeAt Go.RowKit
open Go.ChangeMaps (open_string shut_string)
set_option linter.unusedVariables false


/-- WHAT THE WALK IS TOLD OF A SLICE OF INTEGERS THAT CAME IN: it is nil; or it leads to a row of 'cap' cells, the numbers 'zs' (the first 'len' are its elements, the rest its spare room), each fitting its kind. -/
def IsRow (k : IntKind) (w : World) (a : Option Addr) (len cap : Nat) (zs : List Int) : Prop :=
  (a = none ∧ len = 0 ∧ cap = 0 ∧ zs = []) ∨
  ∃ x, a = some x ∧ len ≤ cap ∧ cap ≤ maxLen ∧ zs.length = cap ∧ (∀ i, i < zs.length → w.cell? (x.add i) = some (.int k (zs.getD i 0))) ∧ ∀ n ∈ zs, (Lit.int k n).wf = true

/-- what the walk is told of a slice of bools that came in -/
def IsBools (w : World) (a : Option Addr) (len cap : Nat) (zs : List Bool) : Prop :=
  (a = none ∧ len = 0 ∧ cap = 0 ∧ zs = []) ∨
  ∃ x, a = some x ∧ len ≤ cap ∧ cap ≤ maxLen ∧ zs.length = cap ∧ ∀ i, i < zs.length → w.cell? (x.add i) = some (.bool (zs.getD i false))
theorem isBools_of {W : World} {x : Addr} {len cap : Nat} {B : Nat → Bool} (hl : len ≤ cap) (hm : cap ≤ maxLen) (hcell : ∀ j, j < cap → W.cell? (x.add j) = some (.bool (B j))) : IsBools W (some x) len cap ((List.range cap).map B) := .inr ⟨x, rfl, hl, hm, by simp, fun i hi => by
  have hi2 : i < cap := by simpa using hi
  rw [hcell i hi2]
  simp [hi2]⟩

open kit mj

/-- a slice of bools that came in, as the frame tells it -/
theorem row_bools {w : World} {x : Addr} {len cap : Nat} {zs : List Bool} (hl : len ≤ cap) (hm : cap ≤ maxLen) (hz : zs.length = cap)
    (hc : ∀ i, i < zs.length → w.cell? (x.add i) = some (.bool (zs.getD i false))) : Row w (some x) len cap ((zs.take len).map Value.bool) := by
  refine ⟨by simp; omega, hl, hm, fun h => (by cases h), fun hn => ?_⟩
  obtain ⟨b, off, spot⟩ := x
  have h0 := hc 0 (by omega)
  have hspot : spot = none := by simpa [Addr.add] using World.cell?_spot h0
  subst hspot
  refine ⟨b, off, rfl, by simpa [Addr.add] using World.block_lt_of_cell? w _ h0, fun i hi => ?_⟩
  have hi2 : i < len := by simp at hi; omega
  have hi3 : i < zs.length := by omega
  have h1 := hc i hi3
  have e : (⟨b, off, none⟩ : Addr).add i = ⟨b, off + i, none⟩ := by
    unfold Addr.add
    by_cases h : i = 0 <;> simp [h]
  rw [e] at h1
  rw [h1]
  simp [hi3]
theorem row_of {k : IntKind} {w : World} {a : Option Addr} {len cap : Nat} {zs : List Int} (h : IsRow k w a len cap zs) : Row w a len cap ((zs.take len).map (Value.int k)) := by
  rcases h with ⟨rfl, rfl, rfl, rfl⟩ | ⟨x, rfl, hl, hm, hz, hc, _⟩
  · exact Row.nil w
  · exact Row.of_cells hl hm hz hc
theorem rowb_of {w : World} {a : Option Addr} {len cap : Nat} {zs : List Bool} (h : IsBools w a len cap zs) : Row w a len cap ((zs.take len).map Value.bool) := by
  rcases h with ⟨rfl, rfl, rfl, rfl⟩ | ⟨x, rfl, hl, hm, hz, hc⟩
  · exact Row.nil w
  · exact row_bools hl hm hz hc
theorem wf8 {n : Int} (h : (Lit.int .u8 n).wf = true) : 0 ≤ n ∧ n ≤ 255 := by
  simp only [Lit.wf, Bool.and_eq_true, decide_eq_true_eq] at h
  exact h
/-- the bytes that came in, as numbers -/
theorem bytes_of {w : World} {a : Option Addr} {len cap : Nat} {zs : List Int} (h : IsRow .u8 w a len cap zs) : ∃ ks : List Nat, (∀ d ∈ ks, d ≤ 255) ∧ Row w a len cap (ks.map fun (d : Nat) => Value.int .u8 (d : Int)) := by
  have hw : ∀ x ∈ zs.take len, 0 ≤ x ∧ x ≤ 255 := fun x hx => by
    rcases h with ⟨rfl, rfl, rfl, rfl⟩ | ⟨y, rfl, hl, hm, hz, hc, hw⟩
    · simp at hx
    · exact wf8 (hw x (List.mem_of_mem_take hx))
  refine ⟨(zs.take len).map Int.toNat, fun d hd => ?_, ?_⟩
  · obtain ⟨x, hx, rfl⟩ := List.mem_map.1 hd
    have := hw x hx
    omega
  · have e : (((zs.take len).map Int.toNat).map fun (d : Nat) => Value.int .u8 (d : Int)) = (zs.take len).map (Value.int .u8) := by
      rw [List.map_map]
      apply List.map_congr_left
      intro x hx
      have := hw x hx
      show Value.int .u8 ((x.toNat : Nat) : Int) = _
      rw [Int.toNat_of_nonneg this.1]
    rw [e]
    exact row_of h

set_option maxRecDepth 100000 in
/-- out of bounds: the law holds at once -/
theorem far (a0 a1 a2 : Option Addr) (n0 c0 n1 c1 n2 c2 : Nat) (w : World) (m0 : n0 ≤ maxLen) (m1 : n1 ≤ maxLen) (m2 : n2 ≤ maxLen) (h : ¬ n0 + n1 + n2 ≤ 1048576) :
    Calls Try.prog 3 #[.slice a0 n0 c0, .slice a1 n1 c1, .slice a2 n2 c2] w fun e w' => e = .returned (.bool true) ∧ Below w.heap.size w w' := by
  have HB := Lib.hid (bytesF a0 a1 a2 n0 c0 n1 c1 n2 c2 h m0 m1 m2 w)
  clear h
  go_enter Try.func3, Try.ntmps3
  go_wp2_with fail
  refine HB.out.mono ?_
  rintro e w' ⟨rfl, rfl⟩
  go_wp2_with fail
  go_ret
  exact ⟨rfl, Below.refl _ _⟩
set_option maxRecDepth 100000 in
theorem shut (a0 a1 a2 : Option Addr) (n0 c0 n1 c1 n2 c2 : Nat) (ds : List Nat) (w : World) (hr : Row w a2 n2 c2 (ds.map fun (d : Nat) => Value.int .u8 (d : Int))) (hd : ∀ d ∈ ds, d ≤ 255) (h : n0 + n1 + n2 ≤ 1048576) (hg : gB n0 n1 ds = false) :
    Calls Try.prog 3 #[.slice a0 n0 c0, .slice a1 n1 c1, .slice a2 n2 c2] w fun e w' => e = .returned (.bool true) ∧ Below w.heap.size w w' := by
  have HB := Lib.hid (bytesT a0 a1 a2 n0 c0 n1 c1 n2 c2 h w)
  have hgd := guards a0 a1 a2 n0 c0 n1 c1 n2 c2 ds w hr hd h
  rw [hg] at hgd
  have HG := Lib.hid hgd
  clear h hgd hg hr hd
  go_enter Try.func3, Try.ntmps3
  go_wp2_with fail
  refine HB.out.mono ?_
  rintro e w' ⟨rfl, rfl⟩
  go_wp2_with fail
  refine HG.out.mono ?_
  rintro e w' ⟨rfl, rfl⟩
  go_wp2_with fail
  go_ret
  exact ⟨rfl, Below.refl _ _⟩

theorem walk (a0 : Option Addr) (len0 cap0 : Nat) (z0 : List Int) (a1 : Option Addr) (len1 cap1 : Nat) (z1 : List Bool) (a2 : Option Addr) (len2 cap2 : Nat) (z2 : List Int) (w : World) (w0 : IsRow .u8 w a0 len0 cap0 z0) (w1 : IsBools w a1 len1 cap1 z1) (w2 : IsRow .u8 w a2 len2 cap2 z2) :
    Calls Try.prog 3 #[.slice a0 len0 cap0, .slice a1 len1 cap1, .slice a2 len2 cap2] w fun e w' => e = .returned (.bool true) ∧ Below w.heap.size w w' := by
  obtain ⟨ks, hk, r0⟩ := bytes_of w0
  have r1 := rowb_of w1
  obtain ⟨ds, hd, r2⟩ := bytes_of w2
  by_cases h : len0 + len1 + len2 ≤ 1048576
  · cases hg : gB len0 len1 ds
    · exact shut a0 a1 a2 len0 cap0 len1 cap1 len2 cap2 ds w r2 hd h hg
    · unfold gB at hg
      rw [decide_eq_true_eq] at hg
      obtain ⟨q1, q2, q3, q4⟩ := hg
      have hl : ds.length = len2 := by simpa using r2.1
      obtain rfl : len1 = len0 := q2
      obtain rfl : len2 = len1 := by omega
      exact main a0 a1 a2 len2 cap0 cap1 cap2 ks _ ds w r0 r1 r2 hk hd q1 q4
  · exact far a0 a1 a2 len0 cap0 len1 cap1 len2 cap2 w (Nat.le_trans r0.2.1 r0.2.2.1) (Nat.le_trans r1.2.1 r1.2.2.1) (Nat.le_trans r2.2.1 r2.2.2.1) h
end Go.Proofs.Ytolphikbppmobab.fnMergeAdjacentLocalsGroupsRuns
