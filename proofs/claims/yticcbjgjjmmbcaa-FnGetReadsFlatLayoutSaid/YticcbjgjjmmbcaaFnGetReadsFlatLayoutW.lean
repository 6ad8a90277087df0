/-
  The walk of FnGetReadsFlatLayout: Reading each flat symbol through SymbolMap.Get gives back its own use count, no link, its own name and no flags.
  Conditions: none beyond those of the given statement Rows.FnGetReadsFlatLayoutSaid.
-/
import Derived.Test.YticcbjgjjmmbcaaRows
import Derived.WalkKit
import Derived.ProofKit
import Derived.OpenShut
import Derived.ShutString
import Derived.ChangeOld
import Derived.Below
import Derived.Test.YticcbjgjjmmbcaaBuildN
import Derived.Test.YticcbjgjjmmbcaaClone16
import Derived.Deep.RegionHeld3
import Derived.Deep.QuietTactic
import Derived.StillTailTactics
import Derived.Test.YticcbjgjjmmbcaaClone32
namespace Go.Proofs.Yticcbjgjjmmbcaa.fnGetReadsFlatLayout
open Go.ChangeShapes Go.WideShapes Go.ChangeAt Go.RowKit
open Go.ChangeMaps (open_string shut_string)
set_option linter.unusedVariables false


/-- WHAT THE WALK IS TOLD OF A SLICE OF INTEGERS THAT CAME IN: it is nil; or it leads to a row of 'cap' cells, the numbers 'zs' (the first 'len' are its elements, the rest its spare room), each fitting its kind. -/
def IsRow (k : IntKind) (w : World) (a : Option Addr) (len cap : Nat) (zs : List Int) : Prop :=
  (a = none ∧ len = 0 ∧ cap = 0 ∧ zs = []) ∨
  ∃ x, a = some x ∧ len ≤ cap ∧ cap ≤ maxLen ∧ zs.length = cap ∧ (∀ i, i < zs.length → w.cell? (x.add i) = some (.int k (zs.getD i 0))) ∧ ∀ n ∈ zs, (Lit.int k n).wf = true

open kit chain arena cut arr

theorem getD_mem2 {P : Int → Prop} {zs : List Int} (h : ∀ x ∈ zs, P x) {j : Nat} (hj : j < zs.length) : P (zs.getD j 0) := by
  have : zs.getD j 0 = zs[j] := by simp [hj]
  rw [this]; exact h _ (List.getElem_mem hj)
theorem wf16 {n : Int} (h : (Lit.int .u16 n).wf = true) : 0 ≤ n ∧ n ≤ 65535 := by
  simp only [Lit.wf, Bool.and_eq_true, decide_eq_true_eq] at h
  exact h
theorem wfu32 {n : Int} (h : (Lit.int .u32 n).wf = true) : 0 ≤ n ∧ n ≤ 4294967295 := by
  simp only [Lit.wf, Bool.and_eq_true, decide_eq_true_eq] at h
  exact h
theorem srcs_le {zs : List Int} {n m : Nat} (h : zs.length = m) (hm : m ≤ 4096) : srcs zs n ≤ 4097 := by
  unfold srcs
  split <;> omega
theorem Ints.empty (k : IntKind) (w : World) : Ints k w none 0 [] := ⟨rfl, fun h => absurd h (by omega)⟩

theorem bytes4_ok (a0 : Option Addr) (len0 cap0 : Nat) (a1 : Option Addr) (len1 cap1 : Nat) (w : World) (h : len0 + len1 ≤ 1048576) :
    Calls Try.prog 4 #[.slice a0 len0 cap0, .slice a1 len1 cap1] w fun e w' => e = .returned (.bool true) ∧ w = w' := by
  go_enter Try.func4, Try.ntmps4
  go_wp2
  go_ret
  exact ⟨rfl, rfl⟩
theorem bytes4_no (a0 : Option Addr) (len0 cap0 : Nat) (a1 : Option Addr) (len1 cap1 : Nat) (w : World) (h : ¬ len0 + len1 ≤ 1048576) (m0 : len0 ≤ 9223372036854775807) (m1 : len1 ≤ 9223372036854775807) :
    Calls Try.prog 4 #[.slice a0 len0 cap0, .slice a1 len1 cap1] w fun e w' => e = .returned (.bool false) ∧ w = w' := by
  by_cases h0 : 1048576 < len0
  · go_enter Try.func4, Try.ntmps4
    go_wp2
    go_ret
    exact ⟨rfl, rfl⟩
  by_cases h1 : 1048576 < len1
  · go_enter Try.func4, Try.ntmps4
    go_wp2
    go_ret
    exact ⟨rfl, rfl⟩
  · go_enter Try.func4, Try.ntmps4
    go_wp2
    go_ret
    exact ⟨rfl, rfl⟩

set_option maxRecDepth 100000 in
set_option maxHeartbeats 16000000 in
theorem main (a0 : Option Addr) (m c0 : Nat) (zs : List Int) (a1 : Option Addr) (n c1 : Nat) (us : List Int) (w : World) (h0 : Row w a0 m c0 (zs.map (Value.int .u16))) (h1 : Row w a1 n c1 (us.map (Value.int .u32)))
    (hz : ∀ j, j < m → 0 ≤ zs.getD j 0 ∧ zs.getD j 0 ≤ 65535) (hu : ∀ j, j < n → 0 ≤ us.getD j 0 ∧ us.getD j 0 ≤ 4294967295) (hm : m ≤ 4096) (hn0 : 1 ≤ n) (hn : n ≤ 4096) :
    Calls Try.prog 3 #[.slice a0 m c0, .slice a1 n c1] w fun e w' => e = .returned (.bool true) ∧ Below w.heap.size w w' := by
  have hz0 : ((n : Int) == 0) = false := by simp; omega
  have HBY := Lib.hid (bytes4_ok a0 m c0 a1 n c1 w (by omega))
  have C0 := Lib.hid (clone16.run a0 m c0 zs w h0 (by omega))
  have H1 := Lib.hid h1
  have HZ := Lib.hid hz
  have HU := Lib.hid hu
  have HZL : Hid (zs.length = m) := Lib.hid (by simpa using h0.1)
  have HUL : Hid (us.length = n) := Lib.hid (by simpa using h1.1)
  have hS : srcs zs n ≤ 4097 := srcs_le HZL.out hm
  have HS := Lib.hid hS
  have HU0 : Hid (∀ i, 0 ≤ us.getD i 0) := Lib.hid (fun i => by
    by_cases hi : i < n
    · exact (hu i hi).1
    · have := HUL.out
      rw [List.getD_eq_getElem?_getD, List.getElem?_eq_none (by omega)]
      exact Int.le_refl 0)
  clear h0 h1 hz hu hS
  go_enter Try.func3, Try.ntmps3
  go_wp2_with fail
  refine HBY.out.mono ?_
  rintro e w' ⟨rfl, rfl⟩
  go_wp2_with fail
  refine C0.out.mono ?_
  rintro e w1 ⟨p0, rfl, o0, _, k1⟩
  have R0 := Lib.hid (Ints.of_row (Row.of_own o0))
  have K1 := Lib.hid k1
  have C1 := Lib.hid (clone32.run a1 n c1 us w1 (H1.out.kept k1) (by omega))
  clear o0 k1 C0 HBY H1
  go_wp2_with fail
  refine C1.out.mono ?_
  rintro e w2 ⟨p1, rfl, o1, _, k2⟩
  have R1 := Lib.hid (Ints.of_row (Row.of_own o1))
  have K2 := Lib.hid k2
  obtain ⟨ub, off, rfl, _, hcu⟩ := R1.out.2 (by omega)
  have HCU := Lib.hid hcu
  have CC := Lib.hid (countsC p0 m m n zs w2 (R0.out.kept K2.out) HZ.out hm hn)
  clear o1 k2 C1 hcu
  go_wp2_with fail
  refine CC.out.mono ?_
  rintro e w6 ⟨cc, rfl, hc6, k6⟩
  have K6 := Lib.hid k6
  have CF := Lib.hid (refsC w2.heap.size cc n zs w6 hc6 HS.out hn)
  have C6 := Lib.hid hc6
  clear k6 hc6 CC
  go_wp2_with fail
  refine CF.out.mono ?_
  rintro e w7 ⟨rfl, hr7, k7⟩
  have K7 := Lib.hid k7
  have R7 := Lib.hid hr7
  have CN := Lib.hid (noLinksC n w7 hn)
  clear k7 hr7 CF
  go_wp2_with fail
  refine CN.out.mono ?_
  rintro e w5 ⟨rfl, hT5, k5⟩
  have K5 := Lib.hid k5
  have CB := Lib.hid (buildC w2.heap.size cc w6.heap.size n w7.heap.size n (some ⟨ub, off, none⟩) n n none 0 0 n zs us [] (fun _ => -1) w5 ((C6.out.kept K7.out).kept k5) (Blk.kept R7.out k5) hT5 ((((R1.out.kept K6.out).kept K7.out)).kept k5) (Ints.empty _ _) (fun i hi => by show (-1 : Int) < (n : Int); omega) HU0.out (fun i => by simp) HS.out hn (by omega) (by omega))
  clear k5 hT5 CN
  go_wp2_with fail
  refine CB.out.mono ?_
  rintro e w8 ⟨g, bk, rfl, hg8, hbk8, hA8, k8⟩
  have HA8 := Lib.hid hA8
  have K8 := Lib.hid k8
  have KW8 : Hid (Kept w w8) := Lib.hid (((((K1.out.trans K2.out).trans K6.out).trans K7.out).trans K5.out).trans K8.out)
  have RF8 : Hid (RefAt w8 w6.heap.size zs n) := Lib.hid (Blk.kept (Blk.kept R7.out K5.out) k8)
  have U8 : Hid (∀ i, i < n → w8.cell? ⟨ub, off + i, none⟩ = some (.int .u32 (us.getD i 0))) := Lib.hid (fun i hi => ((((K6.out.trans K7.out).trans K5.out).trans K8.out)).cell (HCU.out i hi))
  have HVAL := Lib.hid (fun j (hj : j < n) => lay_valid zs n (symI zs n (fun _ => -1) us []) hj)
  have HSYM := Lib.hid (fun j (hj : j < n) => lay_at zs n (symI zs n (fun _ => -1) us []) hj)
  clear hA8 k8 hbk8 CB C6 R7 hg8
  generalize srcs zs n = S at *
  generalize hrfb : w6.heap.size = rf at *
  clear hrfb
  generalize hσ : lay zs n (symI zs n (fun _ => -1) us []) = σ at *
  clear hσ
  unfold mapV
  go_wp2_with fail
  obtain ⟨wb, hwb⟩ : ∃ wb, wb = w8.alloc (.cells #[.slice (some ⟨g, 0, none⟩) S S] 33) := ⟨_, rfl⟩
  have KB : Hid (Kept w8 wb) := Lib.hid (by rw [hwb]; exact (Kept.refl _).alloc _)
  have BB : Hid (Blk wb w8.heap.size 33 [.slice (some ⟨g, 0, none⟩) S S]) := Lib.hid (by rw [hwb]; exact Blk.new _ _ _)
  rw [← hwb]
  clear hwb
  go_loopw [9, 10] (fun t _ wr => ∃ j : Nat, j ≤ n ∧ t = .int .i64 (j : Int) ∧ Kept wb wr) (fun t _ _ => n - (intOf t).toNat)
  case atStart => exact ⟨0, by omega, rfl, Kept.refl _⟩
  case round =>
    obtain ⟨j, hj, rfl, hkr⟩ := hrel
    by_cases hjn : j < n
    · have hji : (j : Int) < (n : Int) := by omega
      have KR : Hid (Kept w8 wr) := Lib.hid (KB.out.trans hkr)
      have HKR := Lib.hid hkr
      have x0 : wr.cell? ⟨w8.heap.size, 0, none⟩ = some (.slice (some ⟨g, 0, none⟩) S S) := hkr.cell (BB.out.cell 0)
      obtain ⟨q0, q1⟩ := RF8.out.cells hjn
      have x1 := KR.out.cell q0
      have x2 := KR.out.cell q1
      have HVJ := Lib.hid (HVAL.out j hjn)
      have HSJ := Lib.hid (HSYM.out j hjn)
      have u0 := U8.out j hjn
      clear hkr q0 q1
      generalize hpj : ref zs n j = pj at *
      clear hpj
      have HGET := Lib.hid (fun (W : World) (k : Kept w8 W) => arena.get W g bk S σ pj (HA8.out.kept k) HVJ.out)
      unfold mapV refV at HGET
      go_wp2_with fail
      go_region_held3 (fun W => W.cell? ⟨w8.heap.size, 0, none⟩ = some (.slice (some ⟨g, 0, none⟩) S S) ∧ W.cell? ⟨rf, j * 2, none⟩ = some (.int .u32 (pj.1 : Int)) ∧ W.cell? ⟨rf, j * 2 + 1, none⟩ = some (.int .u32 (pj.2 : Int))) (first | exact ⟨hk11.cell x0, hk11.cell x1, hk11.cell x2⟩ | go_keep)
        (first | (go_at_call 11; refine (HGET.out _ ?_).mono ?_; (repeat (first | exact KR.out | apply Kept.drew)); rintro e w11 ⟨rfl, hk11⟩))
      rename_i hh
      have K11 : Hid (Kept w8 w11) := Lib.hid (KR.out.drew.trans hk11)
      have KB11 : Hid (Kept wb w11) := Lib.hid (HKR.out.drew.trans hk11)
      clear hh hk11 x0 x1 x2 HGET
      have A11 := Lib.hid (HA8.out.kept K11.out)
      have y1 : w11.cell? ⟨bk pj.1, pj.2 * 10 + 1, none⟩ = some (.string (nameS j)) := by rw [A11.out.sym HVJ.out (by omega), HSJ.out]; rfl
      have y2 : w11.cell? ⟨bk pj.1, pj.2 * 10 + 2, none⟩ = some (.int .u32 4294967295) := by rw [A11.out.sym HVJ.out (by omega), HSJ.out]; rfl
      have y3 : w11.cell? ⟨bk pj.1, pj.2 * 10 + 3, none⟩ = some (.int .u32 4294967295) := by rw [A11.out.sym HVJ.out (by omega), HSJ.out]; rfl
      have y4 : w11.cell? ⟨bk pj.1, pj.2 * 10 + 4, none⟩ = some (.int .u32 (us.getD j 0)) := by
        rw [A11.out.sym HVJ.out (by omega), HSJ.out]
        show some (Value.int .u32 (((us.getD j 0).toNat : Nat) : Int)) = _
        rw [Int.toNat_of_nonneg (HU0.out j)]
      have y7 : w11.cell? ⟨bk pj.1, pj.2 * 10 + 7, none⟩ = some (.int .u16 0) := by rw [A11.out.sym HVJ.out (by omega), HSJ.out]; rfl
      have y8 := K11.out.cell u0
      clear u0 A11 HVJ HSJ
      generalize us.getD j 0 = uj at *
      generalize bk pj.1 = kb at *
      generalize pj.2 = kp at *
      have hne2 : ∀ W : World, (binOp .neq 40 (.agg #[.int .u32 4294967295, .int .u32 4294967295]) (.agg #[.int .u32 4294967295, .int .u32 4294967295])).run Try.prog W = .ok (.bool false) W := fun W => by
        have := neRef W inv inv
        simpa [inv] using this
      have HINV := Lib.hid invC
      have HNAME := Lib.hid (fun W => nameC j W (by omega))
      have hne3 : ∀ W : World, (binOp .neq 9 (.string (nameS j)) (.string (nameS j))).run Try.prog W = .ok (.bool false) W := fun W => by
        generalize nameS j = s
        rw [binOp_string_neq, beq_self_eq_true]
        rfl
      generalize nameS j = nj at *
      go_wp2_with fail
      go_quiet (fail)
      go_wp2_with fail
      go_region_held3 (fun W => W.cell? ⟨kb, kp * 10 + 2, none⟩ = some (.int .u32 4294967295) ∧ W.cell? ⟨kb, kp * 10 + 3, none⟩ = some (.int .u32 4294967295)) (first | exact ⟨hk12.cell y2, hk12.cell y3⟩ | go_keep)
        (first | (go_at_call 12; refine (HINV.out _).mono ?_; rintro e w12 ⟨rfl, hk12⟩))
      rename_i hh
      have K12 : Hid (Kept w11 w12) := Lib.hid (Kept.trans ((Kept.refl w11).drewN _) hk12)
      have z1 := K12.out.cell y1
      have z7 := K12.out.cell y7
      clear hh hk12 y1 y2 y3 y4 y7 y8
      go_wp2_with fail
      go_region_held3 (fun W => W.cell? ⟨kb, kp * 10 + 1, none⟩ = some (.string nj)) (first | exact hk13.cell z1 | go_keep)
        (first | (go_at_call 13; refine (HNAME.out _).mono ?_; rintro e w13 ⟨rfl, hk13⟩))
      rename_i hh
      have K13 : Hid (Kept w12 w13) := Lib.hid (by first | exact Kept.trans (Kept.refl w12).drew hk13 | exact Kept.trans ((Kept.refl w12).drewN _) hk13)
      have v7 := K13.out.cell z7
      clear hh hk13 z1 z7
      have HRX : Hid (∃ p : Nat, p ≤ n ∧ Value.int .i64 ((j : Int) + 1) = .int .i64 (p : Int) ∧ Kept wb w13) := Lib.hid ⟨j + 1, by omega, by go_num, (KB11.out.trans K12.out).trans K13.out⟩
      go_wp2_with fail
      go_roundw
      case rel => first | exact HRX.out | ((repeat apply Exists.intro); exact ⟨HRX.out, rfl⟩)
      case measure => simp [intOf]; omega
    · obtain rfl : j = n := by omega
      have HKR := Lib.hid hkr
      clear hkr
      go_wp2_with fail
      go_ret
      exact ⟨rfl, (KW8.out.trans KB.out).trans HKR.out⟩

theorem walk (a0 : Option Addr) (len0 cap0 : Nat) (z0 : List Int) (a1 : Option Addr) (len1 cap1 : Nat) (z1 : List Int) (w : World) (w0 : IsRow .u16 w a0 len0 cap0 z0) (w1 : IsRow .u32 w a1 len1 cap1 z1) :
    Calls Try.prog 3 #[.slice a0 len0 cap0, .slice a1 len1 cap1] w fun e w' => e = .returned (.bool true) ∧ Below w.heap.size w w' := by
  have hm0 : len0 ≤ 9223372036854775807 := by
    rcases w0 with ⟨rfl, rfl, rfl, rfl⟩ | ⟨x, rfl, hl, hm, hz, hc, hw⟩
    · omega
    · unfold maxLen at hm; omega
  have hm1 : len1 ≤ 9223372036854775807 := by
    rcases w1 with ⟨rfl, rfl, rfl, rfl⟩ | ⟨x, rfl, hl, hm, hz, hc, hw⟩
    · omega
    · unfold maxLen at hm; omega
  have H0 : Hid (Row w a0 len0 cap0 ((z0.take len0).map (Value.int .u16))) := by
    rcases w0 with ⟨rfl, rfl, rfl, rfl⟩ | ⟨x, rfl, hl, hm, hz, hc, hw⟩
    · exact Lib.hid (Row.nil w)
    · exact Lib.hid (Row.of_cells hl hm hz hc)
  have H1 : Hid (Row w a1 len1 cap1 ((z1.take len1).map (Value.int .u32))) := by
    rcases w1 with ⟨rfl, rfl, rfl, rfl⟩ | ⟨x, rfl, hl, hm, hz, hc, hw⟩
    · exact Lib.hid (Row.nil w)
    · exact Lib.hid (Row.of_cells hl hm hz hc)
  have HZ : Hid (∀ j, j < len0 → 0 ≤ (z0.take len0).getD j 0 ∧ (z0.take len0).getD j 0 ≤ 65535) := by
    refine Lib.hid (fun j hj => getD_mem2 (P := fun x => 0 ≤ x ∧ x ≤ 65535) (fun x hx => ?_) (by have := H0.out.1; simp only [List.length_map] at this; omega))
    rcases w0 with ⟨rfl, rfl, rfl, rfl⟩ | ⟨y, rfl, hl, hm, hz, hc, hw⟩
    · simp at hx
    · exact wf16 (hw x (List.mem_of_mem_take hx))
  have HL : Hid (∀ j, j < len1 → 0 ≤ (z1.take len1).getD j 0 ∧ (z1.take len1).getD j 0 ≤ 4294967295) := by
    refine Lib.hid (fun j hj => getD_mem2 (P := fun x => 0 ≤ x ∧ x ≤ 4294967295) (fun x hx => ?_) (by have := H1.out.1; simp only [List.length_map] at this; omega))
    rcases w1 with ⟨rfl, rfl, rfl, rfl⟩ | ⟨y, rfl, hl, hm, hz, hc, hw⟩
    · simp at hx
    · exact wfu32 (hw x (List.mem_of_mem_take hx))
  clear w0 w1
  by_cases c0 : len0 + len1 ≤ 1048576
  · have HBY := Lib.hid (bytes4_ok a0 len0 cap0 a1 len1 cap1 w (by omega))
    by_cases cs : 1048576 < 2 * len0 + 4 * len1
    · go_enter Try.func3, Try.ntmps3
      go_wp2_with fail
      refine HBY.out.mono ?_
      rintro e w' ⟨rfl, rfl⟩
      go_wp2_with fail
      go_ret
      exact ⟨rfl, Below.refl _ _⟩
    by_cases c1 : 4096 < len0
    · go_enter Try.func3, Try.ntmps3
      go_wp2_with fail
      refine HBY.out.mono ?_
      rintro e w' ⟨rfl, rfl⟩
      go_wp2_with fail
      go_ret
      exact ⟨rfl, Below.refl _ _⟩
    by_cases c2 : 4096 < len1
    · go_enter Try.func3, Try.ntmps3
      go_wp2_with fail
      refine HBY.out.mono ?_
      rintro e w' ⟨rfl, rfl⟩
      go_wp2_with fail
      go_ret
      exact ⟨rfl, Below.refl _ _⟩
    by_cases c3 : len1 = 0
    · subst c3
      have C0 := Lib.hid (clone16.run a0 len0 cap0 _ w H0.out (by omega))
      go_enter Try.func3, Try.ntmps3
      go_wp2_with fail
      refine HBY.out.mono ?_
      rintro e w' ⟨rfl, rfl⟩
      go_wp2_with fail
      refine C0.out.mono ?_
      rintro e w1 ⟨p0, rfl, o0, _, k1⟩
      have K1 := Lib.hid k1
      have C1 := Lib.hid (clone32.run a1 0 cap1 _ w1 (H1.out.kept k1) (by omega))
      clear o0 k1 C0 HBY H1
      go_wp2_with fail
      refine C1.out.mono ?_
      rintro e w2 ⟨p1, rfl, o1, _, k2⟩
      have K2 := Lib.hid k2
      clear o1 k2 C1
      go_wp2_with fail
      go_ret
      exact ⟨rfl, K1.out.trans K2.out⟩
    · exact main a0 len0 cap0 _ a1 len1 cap1 _ w H0.out H1.out HZ.out HL.out (by omega) (by omega) (by omega)
  · have HBY := Lib.hid (bytes4_no a0 len0 cap0 a1 len1 cap1 w c0 hm0 hm1)
    go_enter Try.func3, Try.ntmps3
    go_wp2_with fail
    refine HBY.out.mono ?_
    rintro e w' ⟨rfl, rfl⟩
    go_wp2_with fail
    go_ret
    exact ⟨rfl, Below.refl _ _⟩
end Go.Proofs.Yticcbjgjjmmbcaa.fnGetReadsFlatLayout
