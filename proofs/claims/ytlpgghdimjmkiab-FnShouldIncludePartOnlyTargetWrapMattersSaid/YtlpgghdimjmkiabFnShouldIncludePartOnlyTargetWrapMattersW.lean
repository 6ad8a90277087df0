/-
  The walk of FnShouldIncludePartOnlyTargetWrapMatters: Whether a part is included depends on the wrap kind of the one file that its single valid import points at, and on no other file's.
  Conditions: none beyond those of the given statement Rows.FnShouldIncludePartOnlyTargetWrapMattersSaid.
-/
import Derived.Test.YtlpgghdimjmkiabRows
import Derived.WalkKit
import Derived.ProofKit
import Derived.OpenShut
import Derived.ShutString
import Derived.ChangeOld
import Derived.Below
import Derived.Test.YtlpgghdimjmkiabSip6
namespace Go.Proofs.Ytlpgghdimjmkiab.fnShouldIncludePartOnlyTargetWrapMatters
open Go.ChangeShapes Go.WideShapes Go.ChangeAt Go.RowKit
open Go.ChangeMaps (open_string shut_string)
set_option linter.unusedVariables false


/-- WHAT THE WALK IS TOLD OF A SLICE OF INTEGERS THAT CAME IN: it is nil; or it leads to a row of 'cap' cells, the numbers 'zs' (the first 'len' are its elements, the rest its spare room), each fitting its kind. -/
def IsRow (k : IntKind) (w : World) (a : Option Addr) (len cap : Nat) (zs : List Int) : Prop :=
  (a = none ∧ len = 0 ∧ cap = 0 ∧ zs = []) ∨
  ∃ x, a = some x ∧ len ≤ cap ∧ cap ≤ maxLen ∧ zs.length = cap ∧ (∀ i, i < zs.length → w.cell? (x.add i) = some (.int k (zs.getD i 0))) ∧ ∀ n ∈ zs, (Lit.int k n).wf = true

/-- what the walk is told of a slice of bools that came in -/
def IsBools (w : World) (a : Option Addr) (len cap : Nat) (zs : List Bool) : Prop :=
  (a = none ∧ len = 0 ∧ cap = 0 ∧ zs = []) ∨
  ∃ x, a = some x ∧ len ≤ cap ∧ cap ≤ maxLen ∧ zs.length = cap ∧ ∀ i, i < zs.length → w.cell? (x.add i) = some (.bool (zs.getD i false))
theorem isBools_of {W : World} {x : Addr} {len cap : Nat} {B : Nat → Bool} (hl : len ≤ cap) (hm : cap ≤ maxLen) (hcell : ∀ j, j < cap → W.cell? (x.add j) = some (.bool (B j))) : IsBools W (some x) len cap ((List.range cap).map B) := .inr ⟨x, rfl, hl, hm, by simp, fun i hi => by
  have hi2 : i < cap := by simpa using hi
  rw [hcell i hi2]
  simp [hi2]⟩

open kit sip

theorem getD_mem2 {P : Int → Prop} {zs : List Int} (h : ∀ x ∈ zs, P x) (h0 : P 0) (j : Nat) : P (zs.getD j 0) := by
  by_cases hj : j < zs.length
  · have : zs.getD j 0 = zs[j] := by simp [hj]
    rw [this]; exact h _ (List.getElem_mem hj)
  · rw [List.getD_eq_getElem?_getD, List.getElem?_eq_none (by omega)]; exact h0
theorem wfu32 {n : Int} (h : (Lit.int .u32 n).wf = true) : 0 ≤ n ∧ n ≤ 4294967295 := by
  simp only [Lit.wf, Bool.and_eq_true, decide_eq_true_eq] at h
  exact h

set_option maxRecDepth 100000 in
set_option maxHeartbeats 16000000 in
theorem main (a0 : Option Addr) (n0 c0 : Nat) (zs : List Int) (a1 : Option Addr) (n1 c1 : Nat) (zb : List Int) (a2 : Option Addr) (n2 c2 : Nat) (bs : List Bool) (a3 : Option Addr) (n3 c3 : Nat) (ts : List Int) (a4 : Option Addr) (n4 c4 : Nat) (is : List Bool) (a5 : Option Addr) (n5 c5 : Nat) (rs : List Int) (w : World)
    (h0 : Row w a0 n0 c0 (zs.map (Value.int .u8))) (h1 : Row w a1 n1 c1 (zb.map (Value.int .u8))) (h2 : Row w a2 n2 c2 (bs.map Value.bool)) (h3 : Row w a3 n3 c3 (ts.map (Value.int .u32))) (h4 : Row w a4 n4 c4 (is.map Value.bool)) (h5 : Row w a5 n5 c5 (rs.map (Value.int .u32)))
    (hts : ∀ j, 0 ≤ ts.getD j 0 ∧ ts.getD j 0 ≤ 4294967295) (hrs : ∀ j, 0 ≤ rs.getD j 0) :
    Calls Try.prog 3 #[.slice a0 n0 c0, .slice a1 n1 c1, .slice a2 n2 c2, .slice a3 n3 c3, .slice a4 n4 c4, .slice a5 n5 c5] w fun e w' => e = .returned (.bool true) ∧ Below w.heap.size w w' := by
  have HBY := Lib.hid (sip.bytes a0 n0 c0 a1 n1 c1 a2 n2 c2 a3 n3 c3 a4 n4 c4 a5 n5 c5 w)
  have m0 : n0 ≤ 9223372036854775807 := by have := h0.2.1; have := h0.2.2.1; unfold maxLen at *; omega
  have m1 : n1 ≤ 9223372036854775807 := by have := h1.2.1; have := h1.2.2.1; unfold maxLen at *; omega
  have m2 : n2 ≤ 9223372036854775807 := by have := h2.2.1; have := h2.2.2.1; unfold maxLen at *; omega
  have m3 : n3 ≤ 9223372036854775807 := by have := h3.2.1; have := h3.2.2.1; unfold maxLen at *; omega
  have m4 : n4 ≤ 9223372036854775807 := by have := h4.2.1; have := h4.2.2.1; unfold maxLen at *; omega
  have m5 : n5 ≤ 9223372036854775807 := by have := h5.2.1; have := h5.2.2.1; unfold maxLen at *; omega
  have H0 := Lib.hid h0
  have H1 := Lib.hid h1
  have H2 := Lib.hid h2
  have H3 := Lib.hid h3
  have H4 := Lib.hid h4
  have H5 := Lib.hid h5
  have HTS := Lib.hid hts
  have HRS := Lib.hid hrs
  clear h0 h1 h2 h3 h4 h5 hts hrs
  by_cases hbig : n0 ≤ 65536 ∧ n1 ≤ 65536 ∧ n2 ≤ 65536 ∧ n3 ≤ 65536 ∧ n4 ≤ 65536 ∧ n5 ≤ 65536
  · obtain ⟨b0, b1, b2, b3, b4, b5⟩ := hbig
    by_cases e1 : n1 = n0
    · subst e1
      by_cases e35 : n3 = n2 ∧ n5 = n4
      · obtain ⟨rfl, rfl⟩ := e35
        exact sip.main2 a0 n1 c0 zs a1 c1 zb a2 n3 c2 bs a3 c3 ts a4 n5 c4 is a5 c5 rs w H0.out H1.out H2.out H3.out H4.out H5.out HTS.out HRS.out b0 b2 b4
      have HWF := Lib.hid (wf5 w a0 n1 c0 a2 n2 c2 bs a3 n3 c3 ts a4 n4 c4 is a5 n5 c5 rs H2.out H3.out H4.out H5.out b0 b2 b3 b4 b5)
      have HE := Lib.hid e35
      clear e35
      go_enter Try.func3, Try.ntmps3
      go_wp2_with fail
      refine HBY.out.mono ?_
      rintro e w' ⟨⟨b, rfl⟩, rfl⟩
      cases b
      · go_wp2_with fail
        go_ret
        exact ⟨rfl, Below.refl _ _⟩
      go_wp2_with fail
      refine HWF.out.mono ?_
      rintro e w' ⟨⟨b, rfl, hwf⟩, rfl⟩
      cases b
      · clear hwf
        go_wp2_with fail
        go_ret
        exact ⟨rfl, Below.refl _ _⟩
      exact absurd ⟨(hwf rfl).l2, (hwf rfl).l4⟩ HE.out
    · have q1 : ((n1 : Int) == (n0 : Int)) = false := by simp; omega
      go_enter Try.func3, Try.ntmps3
      go_wp2_with fail
      refine HBY.out.mono ?_
      rintro e w' ⟨⟨b, rfl⟩, rfl⟩
      cases b
      all_goals
        go_wp2_with fail
        go_ret
        exact ⟨rfl, Below.refl _ _⟩
  · have hor : 65536 < n0 ∨ 65536 < n1 ∨ 65536 < n2 ∨ 65536 < n3 ∨ 65536 < n4 ∨ 65536 < n5 := by omega
    clear hbig
    rcases hor with hh | hh | hh | hh | hh | hh
    all_goals
      go_enter Try.func3, Try.ntmps3
      go_wp2_with fail
      refine HBY.out.mono ?_
      rintro e w' ⟨⟨b, rfl⟩, rfl⟩
      cases b
      all_goals
        go_wp2_with fail
        all_goals
          go_ret
          exact ⟨rfl, Below.refl _ _⟩

/-- a slice of bools that came in, as the frame tells it -/
theorem row_bools {w : World} {x : Addr} {len cap : Nat} {zs : List Bool} (hl : len ≤ cap) (hm : cap ≤ maxLen) (hz : zs.length = cap)
    (hc : ∀ i, i < zs.length → w.cell? (x.add i) = some (.bool (zs.getD i false))) : Row w (some x) len cap ((zs.take len).map Value.bool) := by
  refine ⟨by simp; omega, hl, hm, fun h => (by cases h), fun hn => ?_⟩
  obtain ⟨b, off, spot⟩ := x
  have h0 := hc 0 (by omega)
  have hspot : spot = none := by simpa [Addr.add] using World.cell?_spot h0
  subst hspot
  refine ⟨b, off, rfl, by simpa [Addr.add] using World.block_lt_of_cell? w _ h0, fun i hi => ?_⟩
  have hi2 : i < len := by simp at hi; omega
  have hi3 : i < zs.length := by omega
  have h1 := hc i hi3
  have e : (⟨b, off, none⟩ : Addr).add i = ⟨b, off + i, none⟩ := by
    unfold Addr.add
    by_cases h : i = 0 <;> simp [h]
  rw [e] at h1
  rw [h1]
  simp [hi3]
theorem row_of {k : IntKind} {w : World} {a : Option Addr} {len cap : Nat} {zs : List Int} (h : IsRow k w a len cap zs) : Row w a len cap ((zs.take len).map (Value.int k)) := by
  rcases h with ⟨rfl, rfl, rfl, rfl⟩ | ⟨x, rfl, hl, hm, hz, hc, _⟩
  · exact Row.nil w
  · exact Row.of_cells hl hm hz hc
theorem rowb_of {w : World} {a : Option Addr} {len cap : Nat} {zs : List Bool} (h : IsBools w a len cap zs) : Row w a len cap ((zs.take len).map Value.bool) := by
  rcases h with ⟨rfl, rfl, rfl, rfl⟩ | ⟨x, rfl, hl, hm, hz, hc⟩
  · exact Row.nil w
  · exact row_bools hl hm hz hc
theorem u32_of {w : World} {a : Option Addr} {len cap : Nat} {zs : List Int} (h : IsRow .u32 w a len cap zs) (j : Nat) : 0 ≤ (zs.take len).getD j 0 ∧ (zs.take len).getD j 0 ≤ 4294967295 := by
  refine getD_mem2 (P := fun x => 0 ≤ x ∧ x ≤ 4294967295) (fun x hx => ?_) (by omega) j
  rcases h with ⟨rfl, rfl, rfl, rfl⟩ | ⟨y, rfl, hl, hm, hz, hc, hw⟩
  · simp at hx
  · exact wfu32 (hw x (List.mem_of_mem_take hx))

theorem walk (a0 : Option Addr) (len0 cap0 : Nat) (z0 : List Int) (a1 : Option Addr) (len1 cap1 : Nat) (z1 : List Int) (a2 : Option Addr) (len2 cap2 : Nat) (z2 : List Bool) (a3 : Option Addr) (len3 cap3 : Nat) (z3 : List Int) (a4 : Option Addr) (len4 cap4 : Nat) (z4 : List Bool) (a5 : Option Addr) (len5 cap5 : Nat) (z5 : List Int) (w : World) (w0 : IsRow .u8 w a0 len0 cap0 z0) (w1 : IsRow .u8 w a1 len1 cap1 z1) (w2 : IsBools w a2 len2 cap2 z2) (w3 : IsRow .u32 w a3 len3 cap3 z3) (w4 : IsBools w a4 len4 cap4 z4) (w5 : IsRow .u32 w a5 len5 cap5 z5) :
    Calls Try.prog 3 #[.slice a0 len0 cap0, .slice a1 len1 cap1, .slice a2 len2 cap2, .slice a3 len3 cap3, .slice a4 len4 cap4, .slice a5 len5 cap5] w fun e w' => e = .returned (.bool true) ∧ Below w.heap.size w w' :=
  main a0 len0 cap0 _ a1 len1 cap1 _ a2 len2 cap2 _ a3 len3 cap3 _ a4 len4 cap4 _ a5 len5 cap5 _ w (row_of w0) (row_of w1) (rowb_of w2) (row_of w3) (rowb_of w4) (row_of w5) (u32_of w3) (fun j => (u32_of w5 j).1)
end Go.Proofs.Ytlpgghdimjmkiab.fnShouldIncludePartOnlyTargetWrapMatters
