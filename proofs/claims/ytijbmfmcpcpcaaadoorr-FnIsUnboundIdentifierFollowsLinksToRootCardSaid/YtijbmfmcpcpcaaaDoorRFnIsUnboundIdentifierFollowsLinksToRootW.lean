/-
  The walk of FnIsUnboundIdentifierFollowsLinksToRoot: For an acyclic symbol arena, isUnboundIdentifier answers true exactly for a plain identifier whose root symbol is unbound.
  Conditions: none beyond those of the given statement Rows.FnIsUnboundIdentifierFollowsLinksToRootSaid.
-/
import Derived.Test.YtijbmfmcpcpcaaaDoorRRows
import Derived.WalkKit
import Derived.ProofKit
import Derived.OpenShut
import Derived.ShutString
import Derived.ChangeOld
import Derived.Below
import Derived.Test.YtijbmfmcpcpcaaaDoorRPlan69
namespace Go.Proofs.YtijbmfmcpcpcaaaDoorR.fnIsUnboundIdentifierFollowsLinksToRoot
open Go.ChangeShapes Go.WideShapes Go.ChangeAt Go.RowKit
open Go.ChangeMaps (open_string shut_string)
set_option linter.unusedVariables false


/-- WHAT THE WALK IS TOLD OF A SLICE OF INTEGERS THAT CAME IN: it is nil; or it leads to a row of 'cap' cells, the numbers 'zs' (the first 'len' are its elements, the rest its spare room), each fitting its kind. -/
def IsRow (k : IntKind) (w : World) (a : Option Addr) (len cap : Nat) (zs : List Int) : Prop :=
  (a = none ∧ len = 0 ∧ cap = 0 ∧ zs = []) ∨
  ∃ x, a = some x ∧ len ≤ cap ∧ cap ≤ maxLen ∧ zs.length = cap ∧ (∀ i, i < zs.length → w.cell? (x.add i) = some (.int k (zs.getD i 0))) ∧ ∀ n ∈ zs, (Lit.int k n).wf = true

open kit chain arena lk syms unb plan69

set_option maxRecDepth 100000 in
set_option maxHeartbeats 8000000 in
theorem main (a0 : Option Addr) (n cap0 : Nat) (ks : List Int) (a1 : Option Addr) (n1 cap1 : Nat) (zs : List Int) (a2 : Int) (a3 : Int) (w : World) (h0 : Ints .u8 w a0 n ks) (h1 : Ints .i32 w a1 n1 zs)
    (hb : ∀ j, -2147483648 ≤ zs.getD j (-1) ∧ zs.getD j (-1) ≤ 2147483647) (hk : ∀ j, j < n → 0 ≤ ks.getD j (-1)) (hn0 : 1 ≤ n) (hn : n ≤ 65536) (hn1 : n1 ≤ 65536) (s0 : 0 ≤ a2) (s1 : a2 ≤ 4294967295) (e0 : 0 ≤ a3) (e1 : a3 ≤ 255) (hI : Inv w) :
    Calls Tryd.prog 6 #[.slice a0 n cap0, .slice a1 n1 cap1, .int .u32 a2, .int .u8 a3] w fun e w' => e = .returned (.bool true) ∧ Below w.heap.size w w' := by
  obtain ⟨i, hi⟩ : ∃ i : Nat, a2 % (n : Int) = (i : Int) := ⟨(a2 % (n : Int)).toNat, by have := Int.emod_nonneg a2 (show (n : Int) ≠ 0 by omega); omega⟩
  have hin : i < n := by have := Int.emod_lt_of_pos a2 (show (0 : Int) < (n : Int) by omega); omega
  have hz0 : ((n : Int) == 0) = false := by simp; omega
  have HBY := Lib.hid (bytes37_ok a0 n cap0 a1 n1 cap1 a2 a3 w (by omega))
  have H10 := Lib.hid (syms10 a0 a1 none n cap0 n1 cap1 0 0 ks zs [] w h0 h1 ⟨rfl, fun h => absurd h (by omega)⟩ hb hk hn hn1 (by omega))
  have HRT := Lib.hid (fun (W : World) (kp : Kept w W) => root13 a1 n1 cap1 i zs W (h1.kept kp) hb (by omega) (by omega))
  have H0 := Lib.hid h0
  have HI := Lib.hid hI
  have HK := Lib.hid hk
  clear h0 h1 hI hb hk
  have hm : a3 % 4 = 0 ∨ a3 % 4 = 1 ∨ a3 % 4 = 2 ∨ a3 % 4 = 3 := by omega
  rcases hm with hm | hm | hm | hm
  · go_enter Tryd.func6, Tryd.ntmps6
    go_wp2_with fail
    refine HBY.out.mono ?_
    rintro e w' ⟨rfl, rfl⟩
    go_wp2_with fail
    refine H10.out.mono ?_
    rintro e w1 ⟨g, b, rfl, hg, hbb, hA, hK1⟩
    have HA := Lib.hid hA
    have HK1 := Lib.hid hK1
    have hbl : b < w1.heap.size := hA.lt (s := 0) (by omega)
    have H9 := Lib.hid (new9 w1 g 1 (fun _ => b) (fun s hs => hbl))
    clear hA hK1
    unfold mapV at H9 ⊢
    go_wp2_with fail
    refine H9.out.mono ?_
    rintro e w2 ⟨rfl, hP, hK2⟩
    have HP := Lib.hid hP
    have HK2 := Lib.hid hK2
    clear hP hK2
    go_wp2_with fail
    obtain ⟨d, hd⟩ := chain_upTo ks zs [] n i hin
    have hrn : rootOf zs i < n := Nat.lt_of_le_of_lt (root_le zs i) hin
    have hkd := HK.out (rootOf zs i) hrn
    have hbool : decide ((symAt (fun _ => upTo ks zs [] n n) (0, rootOf zs i)).kind = 0) = (ks.getD (rootOf zs i) (-1) == 0) := by
      rw [symAt_upTo ks zs [] hrn]
      show decide ((ks.getD (rootOf zs i) (-1)).toNat = 0) = _
      rw [Bool.eq_iff_iff]; simp only [decide_eq_true_eq, beq_iff_eq]; omega
    have hpos : 0 < w.heap.size := World.block_lt_of_cell? w _ HI.out.1
    obtain ⟨w3, hw3, K3, BX⟩ : ∃ w3, w3 = ((w2.alloc (.cells #[.int .u32 0, .int .u32 (i : Int)] 35)).alloc (.cells #[.iface 33 (.pointer (some ⟨w2.heap.size + 1 + 1, 0, none⟩)), .int .i32 0] 43)).alloc (.cells #[.int .u32 0, .int .u32 (i : Int), .bool false, .bool false, .bool false] 37) ∧ Kept w2 w3 ∧ Blk w3 (w2.heap.size + 1 + 1) 37 [.int .u32 0, .int .u32 (i : Int), .bool false, .bool false, .bool false] := by
      refine ⟨_, rfl, (((Kept.refl w2).alloc _).alloc _).alloc _, ?_⟩
      have := Blk.new ((w2.alloc (.cells #[.int .u32 0, .int .u32 (i : Int)] 35)).alloc (.cells #[.iface 33 (.pointer (some ⟨w2.heap.size + 1 + 1, 0, none⟩)), .int .i32 0] 43)) 37 [.int .u32 0, .int .u32 (i : Int), .bool false, .bool false, .bool false]
      simpa using this
    rw [← hw3]
    have KX := HK2.out.trans K3
    have hs12 := HK2.out.size
    have H11 := unb11 w3 (w1.heap.size + 1) (w2.heap.size + 1 + 1) g (fun _ => b) 1 (fun _ => upTo ks zs [] n n) d (0, i) (0, rootOf zs i) (HA.out.kept KX) (HI.out.kept (HK1.out.trans KX)) (fun s hs => by show b ≠ 0; omega) hd (HP.out.kept K3) ⟨BX.cell 0, BX.cell 1, fun s hs => by show b ≠ w2.heap.size + 1 + 1; omega⟩
    rw [hbool] at H11
    have HKW := Lib.hid (HK1.out.trans KX)
    clear hw3 K3 BX KX hd hbool HI HA HP
    refine H11.mono ?_
    rintro e w4 ⟨rfl, hA4, hT4⟩
    have HK4 : Hid (Kept w w4) := Lib.hid (Below.trans HKW.out (hT4.below (fun s hs => hbb) HKW.out.size))
    obtain ⟨b0, o0, rfl, hb0, hc0⟩ := H0.out.2 (by omega)
    have x0 := HK4.out.cell (hc0 (rootOf zs i) hrn)
    clear hA4 hT4 H11 hc0
    have hri : ((rootOf zs i : Nat) : Int) < (n : Int) := by omega
    generalize ks.getD (rootOf zs i) (-1) = kd at *
    go_wp2_with fail
    refine (HRT.out w4 HK4.out).mono ?_
    rintro e w' ⟨rfl, rfl⟩
    generalize rootOf zs i = rt at *
    go_wp2_with fail
    go_ret
    exact ⟨by simp, HK4.out⟩
  · go_enter Tryd.func6, Tryd.ntmps6
    go_wp2_with fail
    refine HBY.out.mono ?_
    rintro e w' ⟨rfl, rfl⟩
    go_wp2_with fail
    refine H10.out.mono ?_
    rintro e w1 ⟨g, b, rfl, hg, hbb, hA, hK1⟩
    have HK1 := Lib.hid hK1
    have hbl : b < w1.heap.size := hA.lt (s := 0) (by omega)
    have H9 := Lib.hid (new9 w1 g 1 (fun _ => b) (fun s hs => hbl))
    clear hA hK1
    unfold mapV at H9 ⊢
    go_wp2_with fail
    refine H9.out.mono ?_
    rintro e w2 ⟨rfl, hP, hK2⟩
    have HK2 := Lib.hid hK2
    clear hP hK2
    go_wp2_with fail
    refine (no11 _ _ 66 _ (fun W => as66 W _)).mono ?_
    rintro e w4 ⟨rfl, hk4⟩
    have HK4 : Hid (Kept w w4) := Lib.hid (HK1.out.trans (HK2.out.trans (((((Kept.refl w2).alloc _).alloc _).alloc _).trans hk4)))
    clear hk4
    go_wp2_with fail
    go_ret
    exact ⟨rfl, HK4.out⟩
  · go_enter Tryd.func6, Tryd.ntmps6
    go_wp2_with fail
    refine HBY.out.mono ?_
    rintro e w' ⟨rfl, rfl⟩
    go_wp2_with fail
    refine H10.out.mono ?_
    rintro e w1 ⟨g, b, rfl, hg, hbb, hA, hK1⟩
    have HK1 := Lib.hid hK1
    have hbl : b < w1.heap.size := hA.lt (s := 0) (by omega)
    have H9 := Lib.hid (new9 w1 g 1 (fun _ => b) (fun s hs => hbl))
    clear hA hK1
    unfold mapV at H9 ⊢
    go_wp2_with fail
    refine H9.out.mono ?_
    rintro e w2 ⟨rfl, hP, hK2⟩
    have HK2 := Lib.hid hK2
    clear hP hK2
    go_wp2_with fail
    refine (no11 _ _ 69 _ (fun W => as69 W _)).mono ?_
    rintro e w4 ⟨rfl, hk4⟩
    have HK4 : Hid (Kept w w4) := Lib.hid (HK1.out.trans (HK2.out.trans ((((((Kept.refl w2).alloc _).alloc _).alloc _).alloc _).trans hk4)))
    clear hk4
    go_wp2_with fail
    go_ret
    exact ⟨rfl, HK4.out⟩
  · go_enter Tryd.func6, Tryd.ntmps6
    go_wp2_with fail
    refine HBY.out.mono ?_
    rintro e w' ⟨rfl, rfl⟩
    go_wp2_with fail
    refine H10.out.mono ?_
    rintro e w1 ⟨g, b, rfl, hg, hbb, hA, hK1⟩
    have HK1 := Lib.hid hK1
    have hbl : b < w1.heap.size := hA.lt (s := 0) (by omega)
    have H9 := Lib.hid (new9 w1 g 1 (fun _ => b) (fun s hs => hbl))
    clear hA hK1
    unfold mapV at H9 ⊢
    go_wp2_with fail
    refine H9.out.mono ?_
    rintro e w2 ⟨rfl, hP, hK2⟩
    have HK2 := Lib.hid hK2
    clear hP hK2
    go_wp2_with fail
    refine (nil11 _ _).mono ?_
    rintro e w4 ⟨rfl, hk4⟩
    have HK4 : Hid (Kept w w4) := Lib.hid (HK1.out.trans (HK2.out.trans ((((Kept.refl w2).alloc _).alloc _).trans hk4)))
    clear hk4
    go_wp2_with fail
    go_ret
    exact ⟨rfl, HK4.out⟩

theorem walk (a0 : Option Addr) (len0 cap0 : Nat) (z0 : List Int) (a1 : Option Addr) (len1 cap1 : Nat) (z1 : List Int) (a2 : Int) (a3 : Int) (w : World) (w0 : IsRow .u8 w a0 len0 cap0 z0) (w1 : IsRow .i32 w a1 len1 cap1 z1) (w2 : (Lit.int .u32 a2).wf = true) (w3 : (Lit.int .u8 a3).wf = true)
    (hi0 : w.cell? ⟨0, 0, none⟩ = some (.int .u32 4294967295)) (hi1 : w.cell? ⟨0, 1, none⟩ = some (.int .u32 4294967295)) :
    Calls Tryd.prog 6 #[.slice a0 len0 cap0, .slice a1 len1 cap1, .int .u32 a2, .int .u8 a3] w fun e w' => e = .returned (.bool true) ∧ Below w.heap.size w w' := by
  have hm0 : len0 ≤ 9223372036854775807 := by
    rcases w0 with ⟨rfl, rfl, rfl, rfl⟩ | ⟨x, rfl, hl, hm, hz, hc, hw⟩
    · omega
    · unfold maxLen at hm; omega
  have hm1 : len1 ≤ 9223372036854775807 := by
    rcases w1 with ⟨rfl, rfl, rfl, rfl⟩ | ⟨x, rfl, hl, hm, hz, hc, hw⟩
    · omega
    · unfold maxLen at hm; omega
  have H0 : Hid (Ints .u8 w a0 len0 (z0.take len0)) := by
    rcases w0 with ⟨rfl, rfl, rfl, rfl⟩ | ⟨x, rfl, hl, hm, hz, hc, hw⟩
    · exact Lib.hid (Ints.nil _ w)
    · exact Lib.hid (Ints.of_cells hl hz hc)
  have H1 : Hid (Ints .i32 w a1 len1 (z1.take len1)) := by
    rcases w1 with ⟨rfl, rfl, rfl, rfl⟩ | ⟨x, rfl, hl, hm, hz, hc, hw⟩
    · exact Lib.hid (Ints.nil _ w)
    · exact Lib.hid (Ints.of_cells hl hz hc)
  have HB : Hid (∀ j, -2147483648 ≤ (z1.take len1).getD j (-1) ∧ (z1.take len1).getD j (-1) ≤ 2147483647) := by
    refine Lib.hid (getD_mem (P := fun x => -2147483648 ≤ x ∧ x ≤ 2147483647) (fun x hx => ?_) (by omega))
    rcases w1 with ⟨rfl, rfl, rfl, rfl⟩ | ⟨y, rfl, hl, hm, hz, hc, hw⟩
    · simp at hx
    · exact wfi (hw x (List.mem_of_mem_take hx))
  have HK : Hid (∀ j, j < len0 → 0 ≤ (z0.take len0).getD j (-1)) := by
    refine Lib.hid (fun j hj => getD_mem2 (P := fun x => 0 ≤ x) (fun x hx => ?_) (by rw [H0.out.1]; exact hj))
    rcases w0 with ⟨rfl, rfl, rfl, rfl⟩ | ⟨y, rfl, hl, hm, hz, hc, hw⟩
    · simp at hx
    · exact (wfu (hw x (List.mem_of_mem_take hx))).1
  obtain ⟨s0, s1⟩ := wfw w2
  obtain ⟨e0, e1⟩ := wfu w3
  have HI : Hid (Inv w) := Lib.hid ⟨hi0, hi1⟩
  clear w0 w1 w2 w3 hi0 hi1
  by_cases c0 : len0 + len1 ≤ 1048576
  · by_cases c1 : 65536 < len0
    · have HBY := Lib.hid (bytes37_ok a0 len0 cap0 a1 len1 cap1 a2 a3 w (by omega))
      go_enter Tryd.func6, Tryd.ntmps6
      go_wp2_with fail
      refine HBY.out.mono ?_
      rintro e w' ⟨rfl, rfl⟩
      go_wp2_with fail
      go_ret
      exact ⟨rfl, Below.refl _ _⟩
    by_cases c2 : 65536 < len1
    · have HBY := Lib.hid (bytes37_ok a0 len0 cap0 a1 len1 cap1 a2 a3 w (by omega))
      go_enter Tryd.func6, Tryd.ntmps6
      go_wp2_with fail
      refine HBY.out.mono ?_
      rintro e w' ⟨rfl, rfl⟩
      go_wp2_with fail
      go_ret
      exact ⟨rfl, Below.refl _ _⟩
    by_cases c3 : len0 = 0
    · have HBY := Lib.hid (bytes37_ok a0 len0 cap0 a1 len1 cap1 a2 a3 w (by omega))
      subst c3
      go_enter Tryd.func6, Tryd.ntmps6
      go_wp2_with fail
      refine HBY.out.mono ?_
      rintro e w' ⟨rfl, rfl⟩
      go_wp2_with fail
      go_ret
      exact ⟨rfl, Below.refl _ _⟩
    · exact main a0 len0 cap0 _ a1 len1 cap1 _ a2 a3 w H0.out H1.out HB.out HK.out (by omega) (by omega) (by omega) s0 s1 e0 e1 HI.out
  · have HBY := Lib.hid (bytes37_no a0 len0 cap0 a1 len1 cap1 a2 a3 w c0 hm0 hm1)
    go_enter Tryd.func6, Tryd.ntmps6
    go_wp2_with fail
    refine HBY.out.mono ?_
    rintro e w' ⟨rfl, rfl⟩
    go_wp2_with fail
    go_ret
    exact ⟨rfl, Below.refl _ _⟩
end Go.Proofs.YtijbmfmcpcpcaaaDoorR.fnIsUnboundIdentifierFollowsLinksToRoot
