/-
  The walk of FnIsUnboundIdentifierAgreesWithEvalTest: For an acyclic symbol arena, asking isUnboundIdentifier twice gives the same answer, and isUnboundEvalIdentifier answers true exactly when it does and the root symbol's name is eval.
  Conditions: none beyond those of the given statement Rows.FnIsUnboundIdentifierAgreesWithEvalTestSaid.
-/
import Derived.Test.YtijbmfmcpcpcaaaDoorRRows
import Derived.WalkKit
import Derived.ProofKit
import Derived.OpenShut
import Derived.ShutString
import Derived.ChangeOld
import Derived.Below
import Derived.Test.YtijbmfmcpcpcaaaDoorRPlan69
namespace Go.Proofs.YtijbmfmcpcpcaaaDoorR.fnIsUnboundIdentifierAgreesWithEvalTest
open Go.ChangeShapes Go.WideShapes Go.ChangeAt Go.RowKit
open Go.ChangeMaps (open_string shut_string)
set_option linter.unusedVariables false


/-- WHAT THE WALK IS TOLD OF A SLICE OF INTEGERS THAT CAME IN: it is nil; or it leads to a row of 'cap' cells, the numbers 'zs' (the first 'len' are its elements, the rest its spare room), each fitting its kind. -/
def IsRow (k : IntKind) (w : World) (a : Option Addr) (len cap : Nat) (zs : List Int) : Prop :=
  (a = none ∧ len = 0 ∧ cap = 0 ∧ zs = []) ∨
  ∃ x, a = some x ∧ len ≤ cap ∧ cap ≤ maxLen ∧ zs.length = cap ∧ (∀ i, i < zs.length → w.cell? (x.add i) = some (.int k (zs.getD i 0))) ∧ ∀ n ∈ zs, (Lit.int k n).wf = true

/-- what the walk is told of a slice of bools that came in -/
def IsBools (w : World) (a : Option Addr) (len cap : Nat) (zs : List Bool) : Prop :=
  (a = none ∧ len = 0 ∧ cap = 0 ∧ zs = []) ∨
  ∃ x, a = some x ∧ len ≤ cap ∧ cap ≤ maxLen ∧ zs.length = cap ∧ ∀ i, i < zs.length → w.cell? (x.add i) = some (.bool (zs.getD i false))
theorem isBools_of {W : World} {x : Addr} {len cap : Nat} {B : Nat → Bool} (hl : len ≤ cap) (hm : cap ≤ maxLen) (hcell : ∀ j, j < cap → W.cell? (x.add j) = some (.bool (B j))) : IsBools W (some x) len cap ((List.range cap).map B) := .inr ⟨x, rfl, hl, hm, by simp, fun i hi => by
  have hi2 : i < cap := by simpa using hi
  rw [hcell i hi2]
  simp [hi2]⟩

open kit chain arena lk syms unb plan69

theorem evalB_relink {S : Nat} (σ : Tab) (L : List Ref) (r q : Ref) (h : Valid S σ q) : evalB (symAt (relink σ L r) q) = evalB (symAt σ q) := by
  unfold evalB
  rw [relink_kind σ L r h, relink_name σ L r h]
theorem evalB_mk (ks zs : List Int) (bs : List Bool) (i : Nat) (h : 0 ≤ ks.getD i (-1)) : evalB (mk ks zs bs i) = ((ks.getD i (-1) == 0) && bs.getD i false) := by
  have h1 : decide ((mk ks zs bs i).kind = 0) = (ks.getD i (-1) == 0) := by
    show decide ((ks.getD i (-1)).toNat = 0) = _
    rw [Bool.eq_iff_iff]; simp only [decide_eq_true_eq, beq_iff_eq]; omega
  have h2 : ((mk ks zs bs i).name.toList == [101, 118, 97, 108]) = bs.getD i false := by
    show ((nameOf (bs.getD i false)).toList == [101, 118, 97, 108]) = _
    cases bs.getD i false
    · show ((⟨#[120]⟩ : ByteArray).toList == [101, 118, 97, 108]) = false
      rw [ByteArray.toList_eq]; rfl
    · show ((⟨#[101, 118, 97, 108]⟩ : ByteArray).toList == [101, 118, 97, 108]) = true
      rw [ByteArray.toList_eq]; rfl
  unfold evalB
  rw [h1, h2]

set_option maxRecDepth 100000 in
set_option maxHeartbeats 8000000 in
theorem main (a0 : Option Addr) (n cap0 : Nat) (ks : List Int) (a1 : Option Addr) (n1 cap1 : Nat) (zs : List Int) (a2 : Option Addr) (n2 cap2 : Nat) (bs : List Bool) (a3 : Int) (w : World) (h0 : Ints .u8 w a0 n ks) (h1 : Ints .i32 w a1 n1 zs) (h2 : syms.Bools w a2 n2 bs)
    (hb : ∀ j, -2147483648 ≤ zs.getD j (-1) ∧ zs.getD j (-1) ≤ 2147483647) (hk : ∀ j, j < n → 0 ≤ ks.getD j (-1)) (hn0 : 1 ≤ n) (hn : n ≤ 65536) (hn1 : n1 ≤ 65536) (hn2 : n2 ≤ 65536) (s0 : 0 ≤ a3) (s1 : a3 ≤ 4294967295) (hI : Inv w) :
    Calls Tryd.prog 3 #[.slice a0 n cap0, .slice a1 n1 cap1, .slice a2 n2 cap2, .int .u32 a3] w fun e w' => e = .returned (.bool true) ∧ Below w.heap.size w w' := by
  obtain ⟨i, hi⟩ : ∃ i : Nat, a3 % (n : Int) = (i : Int) := ⟨(a3 % (n : Int)).toNat, by have := Int.emod_nonneg a3 (show (n : Int) ≠ 0 by omega); omega⟩
  have hin : i < n := by have := Int.emod_lt_of_pos a3 (show (0 : Int) < (n : Int) by omega); omega
  have hz0 : ((n : Int) == 0) = false := by simp; omega
  have HBY := Lib.hid (bytes8_ok a0 n cap0 a1 n1 cap1 a2 n2 cap2 a3 w (by omega))
  have H10 := Lib.hid (syms10 a0 a1 a2 n cap0 n1 cap1 n2 cap2 ks zs bs w h0 h1 h2 hb hk hn hn1 hn2)
  have HRT := Lib.hid (fun (W : World) (kp : Kept w W) => root13 a1 n1 cap1 i zs W (h1.kept kp) hb (by omega) (by omega))
  have H2 := Lib.hid h2
  have HI := Lib.hid hI
  have HK := Lib.hid hk
  clear h0 h1 h2 hI hb hk
  go_enter Tryd.func3, Tryd.ntmps3
  go_wp2_with fail
  refine HBY.out.mono ?_
  rintro e w' ⟨rfl, rfl⟩
  go_wp2_with fail
  refine H10.out.mono ?_
  rintro e w1 ⟨g, b, rfl, hg, hbb, hA, hK1⟩
  have HA := Lib.hid hA
  have HK1 := Lib.hid hK1
  have hbl : b < w1.heap.size := hA.lt (s := 0) (by omega)
  have H9 := Lib.hid (new9 w1 g 1 (fun _ => b) (fun s hs => hbl))
  clear hA hK1
  unfold mapV at H9 ⊢
  go_wp2_with fail
  refine H9.out.mono ?_
  rintro e w2 ⟨rfl, hP, hK2⟩
  have HP := Lib.hid hP
  have HK2 := Lib.hid hK2
  clear hP hK2
  go_wp2_with fail
  obtain ⟨d, hd⟩ := chain_upTo ks zs bs n i hin
  have hrn : rootOf zs i < n := Nat.lt_of_le_of_lt (root_le zs i) hin
  have hkd := HK.out (rootOf zs i) hrn
  have hvr := hd.root.valid
  have hrinv : ((0, rootOf zs i) : Ref) ≠ inv := fun e => by have := congrArg Prod.fst e; simp [inv] at this
  have hbool : decide ((symAt (fun _ => upTo ks zs bs n n) (0, rootOf zs i)).kind = 0) = (ks.getD (rootOf zs i) (-1) == 0) := by
    rw [symAt_upTo ks zs bs hrn]
    show decide ((ks.getD (rootOf zs i) (-1)).toNat = 0) = _
    rw [Bool.eq_iff_iff]; simp only [decide_eq_true_eq, beq_iff_eq]; omega
  have hev : evalB (symAt (fun _ => upTo ks zs bs n n) (0, rootOf zs i)) = ((ks.getD (rootOf zs i) (-1) == 0) && bs.getD (rootOf zs i) false) := by
    rw [symAt_upTo ks zs bs hrn, evalB_mk ks zs bs _ hkd]
  have hpos : 0 < w.heap.size := World.block_lt_of_cell? w _ HI.out.1
  obtain ⟨w3, hw3, K3, BX, BY⟩ : ∃ w3, w3 = (w2.alloc (.cells #[.int .u32 0, .int .u32 (i : Int), .bool false, .bool false, .bool false] 37)).alloc (.cells #[.iface 33 (.pointer (some ⟨w2.heap.size, 0, none⟩)), .int .i32 0] 43) ∧ Kept w2 w3 ∧ Blk w3 w2.heap.size 37 [.int .u32 0, .int .u32 (i : Int), .bool false, .bool false, .bool false] ∧ Blk w3 (w2.heap.size + 1) 43 [.iface 33 (.pointer (some ⟨w2.heap.size, 0, none⟩)), .int .i32 0] := by
    refine ⟨_, rfl, ((Kept.refl w2).alloc _).alloc _, (Blk.new w2 37 [.int .u32 0, .int .u32 (i : Int), .bool false, .bool false, .bool false]).alloc _, ?_⟩
    have := Blk.new (w2.alloc (.cells #[.int .u32 0, .int .u32 (i : Int), .bool false, .bool false, .bool false] 37)) 43 [.iface 33 (.pointer (some ⟨w2.heap.size, 0, none⟩)), .int .i32 0]
    simpa using this
  rw [← hw3]
  have KX := HK2.out.trans K3
  have hs12 := HK2.out.size
  have hz : ∀ s, s < 1 → (fun _ : Nat => b) s ≠ 0 := fun s hs => by show b ≠ 0; omega
  have hE3 : Idn w3 w2.heap.size 1 (fun _ => b) (0, i) := ⟨BX.cell 0, BX.cell 1, fun s hs => by show b ≠ w2.heap.size; omega⟩
  have hP3 := HP.out.kept K3
  have hA3 := HA.out.kept KX
  have hI3 := HI.out.kept (HK1.out.trans KX)
  have H11 := unb11 w3 (w1.heap.size + 1) w2.heap.size g (fun _ => b) 1 (fun _ => upTo ks zs bs n n) d (0, i) (0, rootOf zs i) hA3 hI3 hz hd hP3 hE3
  rw [hbool] at H11
  have HKW := Lib.hid (HK1.out.trans KX)
  refine H11.mono ?_
  rintro e w4 ⟨rfl, hA4, hT4⟩
  obtain ⟨d1, hd1⟩ := Chain.after hd hd hrinv
  have hne1 : ∀ s, s < 1 → (fun _ : Nat => b) s ≠ w2.heap.size + 1 := fun s hs => by show b ≠ w2.heap.size + 1; omega
  have BY4 := hT4.blk BY hne1
  have H12 := unb12 w4 (w1.heap.size + 1) w2.heap.size g (fun _ => b) 1 _ d1 (0, i) (0, rootOf zs i) hA4 (hT4.inv hI3 hz) hz hd1 (hP3.turn hT4) (hE3.turn hT4)
  rw [evalB_relink _ _ _ _ hvr, hev] at H12
  obtain ⟨d2, hd2⟩ := Chain.after hd1 hd1 hrinv
  have H13 := fun (w5 : World) (hA5 : Arena w5 g (fun _ => b) 1 _) (hT5 : Turn w4 w5 (fun _ => b) 1) => unb11 w5 (w1.heap.size + 1) w2.heap.size g (fun _ => b) 1 (relink (relink (fun _ => upTo ks zs bs n n) (path (fun _ => upTo ks zs bs n n) d (0, i)) (0, rootOf zs i)) (path (relink (fun _ => upTo ks zs bs n n) (path (fun _ => upTo ks zs bs n n) d (0, i)) (0, rootOf zs i)) d1 (0, i)) (0, rootOf zs i)) d2 (0, i) (0, rootOf zs i) hA5 ((hT4.trans hT5).inv hI3 hz) hz hd2 (hP3.turn (hT4.trans hT5)) (hE3.turn (hT4.trans hT5))
  rw [relink_kind _ _ _ ((relink_valid ..).2 hvr), relink_kind _ _ _ hvr, hbool] at H13
  have H13' := Lib.hid H13
  have H12' := Lib.hid H12
  have HT4 := Lib.hid hT4
  have HBY4 := Lib.hid BY4
  have HN1 := Lib.hid hne1
  have y0 : w4.cell? ⟨w2.heap.size + 1, 0, none⟩ = some (.iface 33 (.pointer (some ⟨w2.heap.size, 0, none⟩))) := BY4.cell 0
  have y1 : w4.cell? ⟨w2.heap.size + 1, 1, none⟩ = some (.int .i32 0) := BY4.cell 1
  clear H11 H12 H13 hA4 hT4 BY4 hw3 K3 BX BY KX hd hd1 hd2 hbool hev hvr hrinv hz hE3 hP3 hA3 hI3 hne1 HA HP HI HK
  generalize hU : (ks.getD (rootOf zs i) (-1) == 0) = U at *
  clear hU hkd
  generalize hBB : bs.getD (rootOf zs i) false = B at *
  have HBB := Lib.hid hBB
  clear hBB
  unfold exprV at H12' H13'
  go_wp2_with fail
  refine H12'.out.mono ?_
  rintro e w5 ⟨rfl, hA5, hT5⟩
  have HC3 := Lib.hid (H13'.out w5 hA5 hT5)
  have BY5 := hT5.blk HBY4.out HN1.out
  have y0' : w5.cell? ⟨w2.heap.size + 1, 0, none⟩ = some (.iface 33 (.pointer (some ⟨w2.heap.size, 0, none⟩))) := BY5.cell 0
  have y1' : w5.cell? ⟨w2.heap.size + 1, 1, none⟩ = some (.int .i32 0) := BY5.cell 1
  have HT5 := Lib.hid (HT4.out.trans hT5)
  clear hA5 hT5 BY5 H12' H13' y0 y1
  go_wp2_with fail
  refine HC3.out.mono ?_
  rintro e w6 ⟨rfl, hA6, hT6⟩
  have HK6 : Hid (Kept w w6) := Lib.hid (Below.trans HKW.out ((HT5.out.trans hT6).below (fun s hs => hbb) HKW.out.size))
  clear hA6 hT6 HC3 y0' y1'
  go_wp2_with fail
  refine (HRT.out w6 HK6.out).mono ?_
  rintro e w' ⟨rfl, rfl⟩
  by_cases hin2 : rootOf zs i < n2
  · obtain ⟨b2, o2, rfl, hb2, hc2⟩ := H2.out.2 (by omega)
    have xb := HK6.out.cell (hc2 _ hin2)
    have hri : ((rootOf zs i : Nat) : Int) < (n2 : Int) := by omega
    rw [HBB.out] at xb
    clear hc2
    generalize rootOf zs i = rt at *
    cases U <;> cases B
    all_goals
      go_wp2_with fail
      go_ret
      exact ⟨rfl, HK6.out⟩
  · have hB : bs.getD (rootOf zs i) false = false := by simp [List.getElem?_eq_none (show bs.length ≤ rootOf zs i by have := H2.out.1; omega)]
    rw [HBB.out] at hB
    subst hB
    generalize rootOf zs i = rt at *
    cases U
    all_goals
      go_wp2_with fail
      go_ret
      exact ⟨rfl, HK6.out⟩

theorem walk (a0 : Option Addr) (len0 cap0 : Nat) (z0 : List Int) (a1 : Option Addr) (len1 cap1 : Nat) (z1 : List Int) (a2 : Option Addr) (len2 cap2 : Nat) (z2 : List Bool) (a3 : Int) (w : World) (w0 : IsRow .u8 w a0 len0 cap0 z0) (w1 : IsRow .i32 w a1 len1 cap1 z1) (w2 : IsBools w a2 len2 cap2 z2) (w3 : (Lit.int .u32 a3).wf = true)
    (hi0 : w.cell? ⟨0, 0, none⟩ = some (.int .u32 4294967295)) (hi1 : w.cell? ⟨0, 1, none⟩ = some (.int .u32 4294967295)) :
    Calls Tryd.prog 3 #[.slice a0 len0 cap0, .slice a1 len1 cap1, .slice a2 len2 cap2, .int .u32 a3] w fun e w' => e = .returned (.bool true) ∧ Below w.heap.size w w' := by
  have hm0 : len0 ≤ 9223372036854775807 := by
    rcases w0 with ⟨rfl, rfl, rfl, rfl⟩ | ⟨x, rfl, hl, hm, hz, hc, hw⟩
    · omega
    · unfold maxLen at hm; omega
  have hm1 : len1 ≤ 9223372036854775807 := by
    rcases w1 with ⟨rfl, rfl, rfl, rfl⟩ | ⟨x, rfl, hl, hm, hz, hc, hw⟩
    · omega
    · unfold maxLen at hm; omega
  have hm2 : len2 ≤ 9223372036854775807 := by
    rcases w2 with ⟨rfl, rfl, rfl, rfl⟩ | ⟨x, rfl, hl, hm, hz, hc⟩
    · omega
    · unfold maxLen at hm; omega
  have H0 : Hid (Ints .u8 w a0 len0 (z0.take len0)) := by
    rcases w0 with ⟨rfl, rfl, rfl, rfl⟩ | ⟨x, rfl, hl, hm, hz, hc, hw⟩
    · exact Lib.hid (Ints.nil _ w)
    · exact Lib.hid (Ints.of_cells hl hz hc)
  have H1 : Hid (Ints .i32 w a1 len1 (z1.take len1)) := by
    rcases w1 with ⟨rfl, rfl, rfl, rfl⟩ | ⟨x, rfl, hl, hm, hz, hc, hw⟩
    · exact Lib.hid (Ints.nil _ w)
    · exact Lib.hid (Ints.of_cells hl hz hc)
  have H2 : Hid (syms.Bools w a2 len2 (z2.take len2)) := by
    rcases w2 with ⟨rfl, rfl, rfl, rfl⟩ | ⟨x, rfl, hl, hm, hz, hc⟩
    · exact Lib.hid ⟨rfl, fun h => absurd h (by omega)⟩
    · exact Lib.hid (Bools.of_cells hl hz hc)
  have HB : Hid (∀ j, -2147483648 ≤ (z1.take len1).getD j (-1) ∧ (z1.take len1).getD j (-1) ≤ 2147483647) := by
    refine Lib.hid (getD_mem (P := fun x => -2147483648 ≤ x ∧ x ≤ 2147483647) (fun x hx => ?_) (by omega))
    rcases w1 with ⟨rfl, rfl, rfl, rfl⟩ | ⟨y, rfl, hl, hm, hz, hc, hw⟩
    · simp at hx
    · exact wfi (hw x (List.mem_of_mem_take hx))
  have HK : Hid (∀ j, j < len0 → 0 ≤ (z0.take len0).getD j (-1)) := by
    refine Lib.hid (fun j hj => getD_mem2 (P := fun x => 0 ≤ x) (fun x hx => ?_) (by rw [H0.out.1]; exact hj))
    rcases w0 with ⟨rfl, rfl, rfl, rfl⟩ | ⟨y, rfl, hl, hm, hz, hc, hw⟩
    · simp at hx
    · exact (wfu (hw x (List.mem_of_mem_take hx))).1
  obtain ⟨s0, s1⟩ := wfw w3
  have HI : Hid (Inv w) := Lib.hid ⟨hi0, hi1⟩
  clear w0 w1 w2 w3 hi0 hi1
  by_cases c0 : len0 + len1 + len2 ≤ 1048576
  · have HBY := Lib.hid (bytes8_ok a0 len0 cap0 a1 len1 cap1 a2 len2 cap2 a3 w (by omega))
    by_cases c1 : 65536 < len0
    · go_enter Tryd.func3, Tryd.ntmps3
      go_wp2_with fail
      refine HBY.out.mono ?_
      rintro e w' ⟨rfl, rfl⟩
      go_wp2_with fail
      go_ret
      exact ⟨rfl, Below.refl _ _⟩
    by_cases c2 : 65536 < len1
    · go_enter Tryd.func3, Tryd.ntmps3
      go_wp2_with fail
      refine HBY.out.mono ?_
      rintro e w' ⟨rfl, rfl⟩
      go_wp2_with fail
      go_ret
      exact ⟨rfl, Below.refl _ _⟩
    by_cases c4 : 65536 < len2
    · go_enter Tryd.func3, Tryd.ntmps3
      go_wp2_with fail
      refine HBY.out.mono ?_
      rintro e w' ⟨rfl, rfl⟩
      go_wp2_with fail
      go_ret
      exact ⟨rfl, Below.refl _ _⟩
    by_cases c3 : len0 = 0
    · subst c3
      go_enter Tryd.func3, Tryd.ntmps3
      go_wp2_with fail
      refine HBY.out.mono ?_
      rintro e w' ⟨rfl, rfl⟩
      go_wp2_with fail
      go_ret
      exact ⟨rfl, Below.refl _ _⟩
    · exact main a0 len0 cap0 _ a1 len1 cap1 _ a2 len2 cap2 _ a3 w H0.out H1.out H2.out HB.out HK.out (by omega) (by omega) (by omega) (by omega) s0 s1 HI.out
  · have HBY := Lib.hid (bytes8_no a0 len0 cap0 a1 len1 cap1 a2 len2 cap2 a3 w c0 hm0 hm1 hm2)
    go_enter Tryd.func3, Tryd.ntmps3
    go_wp2_with fail
    refine HBY.out.mono ?_
    rintro e w' ⟨rfl, rfl⟩
    go_wp2_with fail
    go_ret
    exact ⟨rfl, Below.refl _ _⟩
end Go.Proofs.YtijbmfmcpcpcaaaDoorR.fnIsUnboundIdentifierAgreesWithEvalTest
