/-
  The walk of FnMergeSymbolsScriptIsUnionFind: Over any script of up to 2048 merges, old, new and the answer follow to one symbol after each merge; at the end the links have no cycle, the classes are those of a relabelling union-find model, and the use counts summed over chain ends equal the sum before.
  Conditions: none beyond those of the given statement Rows.FnMergeSymbolsScriptIsUnionFindSaid.
-/
import Derived.Test.YticcbjgjjmmbcaaDoorRows
import Derived.WalkKit
import Derived.ProofKit
import Derived.OpenShut
import Derived.ShutString
import Derived.ChangeOld
import Derived.Below
import Derived.Test.YticcbjgjjmmbcaaDoorMMain
namespace Go.Proofs.YticcbjgjjmmbcaaDoor.fnMergeSymbolsScriptIsUnionFind
open Go.ChangeShapes Go.WideShapes Go.ChangeAt Go.RowKit
open Go.ChangeMaps (open_string shut_string)
set_option linter.unusedVariables false


/-- WHAT THE WALK IS TOLD OF A SLICE OF INTEGERS THAT CAME IN: it is nil; or it leads to a row of 'cap' cells, the numbers 'zs' (the first 'len' are its elements, the rest its spare room), each fitting its kind. -/
def IsRow (k : IntKind) (w : World) (a : Option Addr) (len cap : Nat) (zs : List Int) : Prop :=
  (a = none ∧ len = 0 ∧ cap = 0 ∧ zs = []) ∨
  ∃ x, a = some x ∧ len ≤ cap ∧ cap ≤ maxLen ∧ zs.length = cap ∧ (∀ i, i < zs.length → w.cell? (x.add i) = some (.int k (zs.getD i 0))) ∧ ∀ n ∈ zs, (Lit.int k n).wf = true

open kit chain arena cut arr p236

theorem bytes6_no (a0 : Option Addr) (n0 c0 : Nat) (a1 : Option Addr) (n1 c1 : Nat) (a2 : Option Addr) (n2 c2 : Nat) (a3 : Option Addr) (n3 c3 : Nat) (w : World) (h : ¬ n0 + n1 + n2 + n3 ≤ 1048576) (m0 : n0 ≤ 9223372036854775807) (m1 : n1 ≤ 9223372036854775807) (m2 : n2 ≤ 9223372036854775807) (m3 : n3 ≤ 9223372036854775807) :
    Calls Tryd.prog 6 #[.slice a0 n0 c0, .slice a1 n1 c1, .slice a2 n2 c2, .slice a3 n3 c3] w fun e w' => e = .returned (.bool false) ∧ w = w' := by
  by_cases h0 : 1048576 < n0
  · go_enter Tryd.func6, Tryd.ntmps6
    go_wp2
    go_ret
    exact ⟨rfl, rfl⟩
  by_cases h1 : 1048576 < n1
  · go_enter Tryd.func6, Tryd.ntmps6
    go_wp2
    go_ret
    exact ⟨rfl, rfl⟩
  by_cases h2 : 1048576 < n0 + n1
  · go_enter Tryd.func6, Tryd.ntmps6
    go_wp2
    go_ret
    exact ⟨rfl, rfl⟩
  by_cases h3 : 1048576 < n2
  · go_enter Tryd.func6, Tryd.ntmps6
    go_wp2
    go_ret
    exact ⟨rfl, rfl⟩
  by_cases h4 : 1048576 < n0 + n1 + n2
  · go_enter Tryd.func6, Tryd.ntmps6
    go_wp2
    go_ret
    exact ⟨rfl, rfl⟩
  by_cases h5 : 1048576 < n3
  · go_enter Tryd.func6, Tryd.ntmps6
    go_wp2
    go_ret
    exact ⟨rfl, rfl⟩
  · go_enter Tryd.func6, Tryd.ntmps6
    go_wp2
    go_ret
    exact ⟨rfl, rfl⟩

set_option maxRecDepth 100000 in
set_option maxHeartbeats 16000000 in
theorem walk (a0 : Option Addr) (len0 cap0 : Nat) (z0 : List Int) (a1 : Option Addr) (len1 cap1 : Nat) (z1 : List Int) (a2 : Option Addr) (len2 cap2 : Nat) (z2 : List Int) (a3 : Option Addr) (len3 cap3 : Nat) (z3 : List Int) (w : World) (w0 : IsRow .u16 w a0 len0 cap0 z0) (w1 : IsRow .i32 w a1 len1 cap1 z1) (w2 : IsRow .u32 w a2 len2 cap2 z2) (w3 : IsRow .u32 w a3 len3 cap3 z3)
    (hi0 : w.cell? ⟨0, 0, none⟩ = some (.int .u32 4294967295)) (hi1 : w.cell? ⟨0, 1, none⟩ = some (.int .u32 4294967295)) :
    Calls Tryd.prog 3 #[.slice a0 len0 cap0, .slice a1 len1 cap1, .slice a2 len2 cap2, .slice a3 len3 cap3] w fun e w' => e = .returned (.bool true) ∧ Below w.heap.size w w' := by
  have hm0 : len0 ≤ 9223372036854775807 := by
    rcases w0 with ⟨rfl, rfl, rfl, rfl⟩ | ⟨x, rfl, hl, hm, hz, hc, hw⟩
    · omega
    · unfold maxLen at hm; omega
  have hm1 : len1 ≤ 9223372036854775807 := by
    rcases w1 with ⟨rfl, rfl, rfl, rfl⟩ | ⟨x, rfl, hl, hm, hz, hc, hw⟩
    · omega
    · unfold maxLen at hm; omega
  have hm2 : len2 ≤ 9223372036854775807 := by
    rcases w2 with ⟨rfl, rfl, rfl, rfl⟩ | ⟨x, rfl, hl, hm, hz, hc, hw⟩
    · omega
    · unfold maxLen at hm; omega
  have hm3 : len3 ≤ 9223372036854775807 := by
    rcases w3 with ⟨rfl, rfl, rfl, rfl⟩ | ⟨x, rfl, hl, hm, hz, hc, hw⟩
    · omega
    · unfold maxLen at hm; omega
  have H0 : Hid (Row w a0 len0 cap0 ((z0.take len0).map (Value.int .u16))) := by
    rcases w0 with ⟨rfl, rfl, rfl, rfl⟩ | ⟨x, rfl, hl, hm, hz, hc, hw⟩
    · exact Lib.hid (Row.nil w)
    · exact Lib.hid (Row.of_cells hl hm hz hc)
  have H1 : Hid (Row w a1 len1 cap1 ((z1.take len1).map (Value.int .i32))) := by
    rcases w1 with ⟨rfl, rfl, rfl, rfl⟩ | ⟨x, rfl, hl, hm, hz, hc, hw⟩
    · exact Lib.hid (Row.nil w)
    · exact Lib.hid (Row.of_cells hl hm hz hc)
  have H2 : Hid (Row w a2 len2 cap2 ((z2.take len2).map (Value.int .u32))) := by
    rcases w2 with ⟨rfl, rfl, rfl, rfl⟩ | ⟨x, rfl, hl, hm, hz, hc, hw⟩
    · exact Lib.hid (Row.nil w)
    · exact Lib.hid (Row.of_cells hl hm hz hc)
  have H3 : Hid (Row w a3 len3 cap3 ((z3.take len3).map (Value.int .u32))) := by
    rcases w3 with ⟨rfl, rfl, rfl, rfl⟩ | ⟨x, rfl, hl, hm, hz, hc, hw⟩
    · exact Lib.hid (Row.nil w)
    · exact Lib.hid (Row.of_cells hl hm hz hc)
  have HZ0 : Hid (∀ j, j < len0 → 0 ≤ (z0.take len0).getD j 0 ∧ (z0.take len0).getD j 0 ≤ 65535) := by
    refine Lib.hid (fun j hj => getD_mem2 (P := fun x => 0 ≤ x ∧ x ≤ 65535) (fun x hx => ?_) (by have := H0.out.1; simp only [List.length_map] at this; omega))
    rcases w0 with ⟨rfl, rfl, rfl, rfl⟩ | ⟨y, rfl, hl, hm, hz, hc, hw⟩
    · simp at hx
    · exact wf16 (hw x (List.mem_of_mem_take hx))
  have HZ1 : Hid (∀ j, j < len1 → -2147483648 ≤ (z1.take len1).getD j 0 ∧ (z1.take len1).getD j 0 ≤ 2147483647) := by
    refine Lib.hid (fun j hj => getD_mem2 (P := fun x => -2147483648 ≤ x ∧ x ≤ 2147483647) (fun x hx => ?_) (by have := H1.out.1; simp only [List.length_map] at this; omega))
    rcases w1 with ⟨rfl, rfl, rfl, rfl⟩ | ⟨y, rfl, hl, hm, hz, hc, hw⟩
    · simp at hx
    · exact wfi32 (hw x (List.mem_of_mem_take hx))
  have HZ2 : Hid (∀ j, 0 ≤ (z2.take len2).getD j 0 ∧ (z2.take len2).getD j 0 ≤ 4294967295) := by
    refine Lib.hid (fun j => ?_)
    rcases Nat.lt_or_ge j (z2.take len2).length with hj | hj
    case inr => rw [List.getD_eq_getElem?_getD, List.getElem?_eq_none hj]; simp
    refine getD_mem2 (P := fun x => 0 ≤ x ∧ x ≤ 4294967295) (fun x hx => ?_) hj
    rcases w2 with ⟨rfl, rfl, rfl, rfl⟩ | ⟨y, rfl, hl, hm, hz, hc, hw⟩
    · simp at hx
    · exact wfu32 (hw x (List.mem_of_mem_take hx))
  have HZ3 : Hid (∀ j, 0 ≤ (z3.take len3).getD j 0 ∧ (z3.take len3).getD j 0 ≤ 4294967295) := by
    refine Lib.hid (fun j => ?_)
    rcases Nat.lt_or_ge j (z3.take len3).length with hj | hj
    case inr => rw [List.getD_eq_getElem?_getD, List.getElem?_eq_none hj]; simp
    refine getD_mem2 (P := fun x => 0 ≤ x ∧ x ≤ 4294967295) (fun x hx => ?_) hj
    rcases w3 with ⟨rfl, rfl, rfl, rfl⟩ | ⟨y, rfl, hl, hm, hz, hc, hw⟩
    · simp at hx
    · exact wfu32 (hw x (List.mem_of_mem_take hx))
  have HI : Hid (Inv w) := Lib.hid ⟨hi0, hi1⟩
  clear w0 w1 w2 w3 hi0 hi1
  by_cases c0 : len0 + len1 + len2 + len3 ≤ 1048576
  case neg =>
    have HBY := Lib.hid (bytes6_no a0 len0 cap0 a1 len1 cap1 a2 len2 cap2 a3 len3 cap3 w c0 hm0 hm1 hm2 hm3)
    clear hm0 hm1 hm2 hm3
    go_enter Tryd.func3, Tryd.ntmps3
    go_wp2_with fail
    refine HBY.out.mono ?_
    rintro e w' ⟨rfl, rfl⟩
    go_wp2_with fail
    go_ret
    exact ⟨rfl, Below.refl _ _⟩
  have HBY := Lib.hid (scr.bytes6 a0 len0 cap0 a1 len1 cap1 a2 len2 cap2 a3 len3 cap3 w)
  by_cases cs : 1048576 < 2 * len0 + 4 * len1 + 4 * len2 + 4 * len3
  · go_enter Tryd.func3, Tryd.ntmps3
    go_wp2_with fail
    refine HBY.out.mono ?_
    rintro e w' ⟨⟨b, rfl⟩, rfl⟩
    cases b
    · go_wp2_with fail
      go_ret
      exact ⟨rfl, Below.refl _ _⟩
    go_wp2_with fail
    go_ret
    exact ⟨rfl, Below.refl _ _⟩
  by_cases c1 : 4096 < len0
  · go_enter Tryd.func3, Tryd.ntmps3
    go_wp2_with fail
    refine HBY.out.mono ?_
    rintro e w' ⟨⟨b, rfl⟩, rfl⟩
    cases b
    · go_wp2_with fail
      go_ret
      exact ⟨rfl, Below.refl _ _⟩
    go_wp2_with fail
    go_ret
    exact ⟨rfl, Below.refl _ _⟩
  by_cases c2 : 4096 < len1
  · go_enter Tryd.func3, Tryd.ntmps3
    go_wp2_with fail
    refine HBY.out.mono ?_
    rintro e w' ⟨⟨b, rfl⟩, rfl⟩
    cases b
    · go_wp2_with fail
      go_ret
      exact ⟨rfl, Below.refl _ _⟩
    go_wp2_with fail
    go_ret
    exact ⟨rfl, Below.refl _ _⟩
  by_cases c3 : 4096 < len2
  · go_enter Tryd.func3, Tryd.ntmps3
    go_wp2_with fail
    refine HBY.out.mono ?_
    rintro e w' ⟨⟨b, rfl⟩, rfl⟩
    cases b
    · go_wp2_with fail
      go_ret
      exact ⟨rfl, Below.refl _ _⟩
    go_wp2_with fail
    go_ret
    exact ⟨rfl, Below.refl _ _⟩
  by_cases c4 : 4096 < len3
  · go_enter Tryd.func3, Tryd.ntmps3
    go_wp2_with fail
    refine HBY.out.mono ?_
    rintro e w' ⟨⟨b, rfl⟩, rfl⟩
    cases b
    · go_wp2_with fail
      go_ret
      exact ⟨rfl, Below.refl _ _⟩
    go_wp2_with fail
    go_ret
    exact ⟨rfl, Below.refl _ _⟩
  by_cases c5 : len1 = 0
  · subst c5
    have C0 := Lib.hid (clone16.run a0 len0 cap0 _ w H0.out (by omega))
    go_enter Tryd.func3, Tryd.ntmps3
    go_wp2_with fail
    refine HBY.out.mono ?_
    rintro e w' ⟨⟨b, rfl⟩, rfl⟩
    cases b
    · go_wp2_with fail
      go_ret
      exact ⟨rfl, Below.refl _ _⟩
    go_wp2_with fail
    refine C0.out.mono ?_
    rintro e w1 ⟨p0, rfl, o0, _, k1⟩
    have C1 := Lib.hid (cloneI32.run a1 0 cap1 _ w1 (H1.out.kept k1) (by omega))
    have K1 := Lib.hid k1
    clear o0 k1 C0 HBY H1
    go_wp2_with fail
    refine C1.out.mono ?_
    rintro e w2 ⟨p1, rfl, o1, _, k2⟩
    have C2 := Lib.hid (clone32.run a2 len2 cap2 _ w2 (H2.out.kept (K1.out.trans k2)) (by omega))
    have K2 := Lib.hid (K1.out.trans k2)
    clear o1 k2 C1 K1 H2
    go_wp2_with fail
    refine C2.out.mono ?_
    rintro e w3 ⟨p2, rfl, o2, _, k3⟩
    have C3 := Lib.hid (clone32.run a3 len3 cap3 _ w3 (H3.out.kept (K2.out.trans k3)) (by omega))
    have K3 := Lib.hid (K2.out.trans k3)
    clear o2 k3 C2 K2 H3
    go_wp2_with fail
    refine C3.out.mono ?_
    rintro e w4 ⟨p3, rfl, o3, _, k4⟩
    have K4 := Lib.hid (K3.out.trans k4)
    clear o3 k4 C3 K3
    go_wp2_with fail
    go_ret
    exact ⟨rfl, K4.out⟩
  · exact scr.main a0 len0 cap0 _ a1 len1 cap1 _ a2 len2 cap2 _ a3 len3 cap3 _ w H0.out H1.out H2.out H3.out HZ0.out HZ1.out HZ2.out HZ3.out (by omega) (by omega) (by omega) (by omega) (by omega) HI.out
end Go.Proofs.YticcbjgjjmmbcaaDoor.fnMergeSymbolsScriptIsUnionFind
