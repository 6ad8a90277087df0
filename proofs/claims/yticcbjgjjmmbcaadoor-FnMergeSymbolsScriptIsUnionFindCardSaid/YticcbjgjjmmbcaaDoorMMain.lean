/-
  FnMergeSymbolsScriptIsUnionFind over this seat's program, behind its guards.
  Conditions: at most 4096 of each, at least one symbol; ast.InvalidRef holds its initial value.
-/
import Derived.Test.YticcbjgjjmmbcaaDoorRnd
import Derived.Deep.RegionHeld3
import Derived.Test.YticcbjgjjmmbcaaDoorClone16
import Derived.Test.YticcbjgjjmmbcaaDoorCloneI32
import Derived.Test.YticcbjgjjmmbcaaDoorClone32
import Derived.Deep.DeepCutAuto
namespace Go.Proofs.YticcbjgjjmmbcaaDoor.scr
open Go.ChangeShapes Go.WideShapes Go.ChangeAt Go.RowKit
open kit chain arena cut arr p236 uf

set_option maxRecDepth 100000 in
set_option maxHeartbeats 32000000 in
theorem main (a0 : Option Addr) (m c0 : Nat) (zs : List Int) (a1 : Option Addr) (n c1 : Nat) (ls : List Int) (a2 : Option Addr) (nu c2 : Nat) (us : List Int) (a3 : Option Addr) (np c3 : Nat) (ps : List Int) (w : World)
    (h0 : Row w a0 m c0 (zs.map (Value.int .u16))) (h1 : Row w a1 n c1 (ls.map (Value.int .i32))) (h2 : Row w a2 nu c2 (us.map (Value.int .u32))) (h3 : Row w a3 np c3 (ps.map (Value.int .u32)))
    (hz : ∀ j, j < m → 0 ≤ zs.getD j 0 ∧ zs.getD j 0 ≤ 65535) (hl : ∀ j, j < n → -2147483648 ≤ ls.getD j 0 ∧ ls.getD j 0 ≤ 2147483647) (hu : ∀ j, 0 ≤ us.getD j 0 ∧ us.getD j 0 ≤ 4294967295) (hp : ∀ j, 0 ≤ ps.getD j 0 ∧ ps.getD j 0 ≤ 4294967295)
    (hm : m ≤ 4096) (hn0 : 1 ≤ n) (hn : n ≤ 4096) (hnu : nu ≤ 4096) (hnp : np ≤ 4096) (hI : Inv w) :
    Calls Tryd.prog 3 #[.slice a0 m c0, .slice a1 n c1, .slice a2 nu c2, .slice a3 np c3] w fun e w' => e = .returned (.bool true) ∧ Below w.heap.size w w' := by
  have hz0 : ((n : Int) == 0) = false := by simp; omega
  obtain ⟨C, hC, hmk⟩ := makeInts n (by omega)
  have HC := Lib.hid hC
  clear hC
  have HBY := Lib.hid (bytes6 a0 m c0 a1 n c1 a2 nu c2 a3 np c3 w)
  have C0 := Lib.hid (clone16.run a0 m c0 zs w h0 (by omega))
  have H1 := Lib.hid h1
  have H2 := Lib.hid h2
  have H3 := Lib.hid h3
  have HZ := Lib.hid hz
  have HL := Lib.hid hl
  have HU := Lib.hid hu
  have HP := Lib.hid hp
  have HI := Lib.hid hI
  have HZL : Hid (zs.length = m) := Lib.hid (by simpa using h0.1)
  have hTl : ∀ i, i < n → tgtOf ls n i < (n : Int) := fun i _ => (tgt_lt hn0).1
  have HTL := Lib.hid hTl
  have hS : srcs zs n ≤ 4097 := srcs_le HZL.out hm
  have HS := Lib.hid hS
  clear h0 h1 h2 h3 hz hl hu hp hI hTl hS
  go_enter Tryd.func3, Tryd.ntmps3
  go_wp2_with fail
  refine HBY.out.mono ?_
  rintro e w' ⟨⟨b, rfl⟩, rfl⟩
  cases b
  · go_wp2_with fail
    go_ret
    exact ⟨rfl, Below.refl _ _⟩
  go_wp2_with fail
  refine C0.out.mono ?_
  rintro e w1 ⟨p0, rfl, o0, _, k1⟩
  have R0 := Lib.hid (Ints.of_row (Row.of_own o0))
  have K1 := Lib.hid k1
  have C1 := Lib.hid (cloneI32.run a1 n c1 ls w1 (H1.out.kept k1) (by omega))
  clear o0 k1 C0 HBY H1
  go_wp2_with fail
  refine C1.out.mono ?_
  rintro e w2 ⟨p1, rfl, o1, _, k2⟩
  have R1 := Lib.hid (Ints.of_row (Row.of_own o1))
  have K2 := Lib.hid (K1.out.trans k2)
  have C2 := Lib.hid (clone32.run a2 nu c2 us w2 (H2.out.kept (K1.out.trans k2)) (by omega))
  have R02 := Lib.hid (R0.out.kept k2)
  clear o1 k2 C1 H2 R0 K1
  go_wp2_with fail
  refine C2.out.mono ?_
  rintro e w3 ⟨p2, rfl, o2, _, k3⟩
  have R2 := Lib.hid (Ints.of_row (Row.of_own o2))
  have K3 := Lib.hid (K2.out.trans k3)
  have C3 := Lib.hid (clone32.run a3 np c3 ps w3 (H3.out.kept (K2.out.trans k3)) (by omega))
  have R03 := Lib.hid (R02.out.kept k3)
  have R13 := Lib.hid (R1.out.kept k3)
  clear o2 k3 C2 H3 R02 R1 K2
  go_wp2_with fail
  refine C3.out.mono ?_
  rintro e w4 ⟨p3, rfl, o3, _, k4⟩
  have R3 := Lib.hid (Ints.of_row (Row.of_own o3))
  have HP4 : Hid (0 < np → ∃ b o, p3 = some ⟨b, o, none⟩ ∧ b < w4.heap.size) := Lib.hid (fun h0 => by obtain ⟨b, o, e, h1, _⟩ := R3.out.2 h0; exact ⟨b, o, e, h1⟩)
  have K4 := Lib.hid (K3.out.trans k4)
  have R04 := Lib.hid (R03.out.kept k4)
  have R14 := Lib.hid (R13.out.kept k4)
  have R24 := Lib.hid (R2.out.kept k4)
  have CT := Lib.hid (targetsC p1 n n ls w4 R14.out HL.out hn)
  clear o3 k4 C3 R03 R13 R2 K3
  go_wp2_with fail
  refine CT.out.mono ?_
  rintro e w5 ⟨rfl, hT5, k5⟩
  have T5 := Lib.hid hT5
  have K5 := Lib.hid k5
  have CR := Lib.hid (rootsC w4.heap.size n n (tgtOf ls n) w5 hT5 HTL.out hn0 hn)
  clear hT5 k5 CT R14
  go_wp2_with fail
  refine CR.out.mono ?_
  rintro e w6 ⟨k6, rfl | ⟨R, rfl, hR6, hch⟩⟩
  · have K6 := Lib.hid k6
    clear k6
    go_wp2_with fail
    go_ret
    exact ⟨rfl, (K4.out.trans K5.out).trans K6.out⟩
  have K46 := Lib.hid (K5.out.trans k6)
  have T6 := Lib.hid (T5.out.kept k6)
  have R6 := Lib.hid hR6
  have HCH := Lib.hid hch
  have R06 := Lib.hid (R04.out.kept K46.out)
  have R26 := Lib.hid (R24.out.kept K46.out)
  have R36 := Lib.hid (R3.out.kept K46.out)
  have KW6 := Lib.hid (K4.out.trans K46.out)
  have L4 : Hid (w4.heap.size < w6.heap.size) := Lib.hid (Nat.lt_of_lt_of_le T5.out.1 k6.size)
  have L5 : Hid (w5.heap.size < w6.heap.size) := Lib.hid hR6.1
  clear k6 hR6 hch CR T5 R04 R24 R3 K4 K5 K46
  generalize hT : tgtOf ls n = T at *
  clear hT
  generalize w4.heap.size = tb at *
  generalize w5.heap.size = rb at *
  have CC := Lib.hid (countsC p0 m m n zs w6 R06.out HZ.out hm hn)
  go_wp2_with fail
  refine CC.out.mono ?_
  rintro e w7 ⟨cc, rfl, hc7, k7⟩
  have CF := Lib.hid (refsC w6.heap.size cc n zs w7 hc7 HS.out hn)
  have C7 := Lib.hid hc7
  have K7 := Lib.hid k7
  clear k7 hc7 CC
  go_wp2_with fail
  refine CF.out.mono ?_
  rintro e w8 ⟨rfl, hr8, k8⟩
  have CS := Lib.hid (startsC w6.heap.size cc n zs w8 (C7.out.kept k8) HS.out hn)
  have R8 := Lib.hid hr8
  have K8 := Lib.hid k8
  clear k8 hr8 CF
  go_wp2_with fail
  refine CS.out.mono ?_
  rintro e w9 ⟨rfl, hs9, k9⟩
  have S9 := Lib.hid hs9
  have K69 := Lib.hid ((K7.out.trans K8.out).trans k9)
  have C9 := Lib.hid ((C7.out.kept K8.out).kept k9)
  have RF9 : Hid (RefAt w9 w7.heap.size zs n) := Lib.hid (Blk.kept R8.out k9)
  have L7 : Hid (w6.heap.size < w9.heap.size ∧ w7.heap.size < w9.heap.size ∧ w8.heap.size < w9.heap.size) := Lib.hid ⟨by have := C7.out.1; have := (K8.out.trans k9).size; omega, by have := Blk.lt R8.out; have := k9.size; omega, hs9.1⟩
  have T9 := Lib.hid (T6.out.kept K69.out)
  have CB := Lib.hid (buildC w6.heap.size cc w7.heap.size n tb n p2 nu nu none 0 0 n zs us [] T w9 C9.out RF9.out T9.out (R26.out.kept K69.out) (Ints.empty _ _) HTL.out (fun i => (HU.out i).1) (fun i => by simp) HS.out hn (by omega) (by omega))
  clear k9 hs9 CS C7 R8 K7 K8
  go_wp2_with fail
  refine CB.out.mono ?_
  rintro e w10 ⟨g, bk, rfl, hg, hbk, hA, k10⟩
  have HA := Lib.hid hA
  have HBK := Lib.hid hbk
  have K10 := Lib.hid k10
  have R2X := Lib.hid ((R26.out.kept K69.out).kept k10)
  have R3X := Lib.hid ((R36.out.kept K69.out).kept k10)
  have CX := Lib.hid (C9.out.kept k10)
  have SX := Lib.hid (S9.out.kept k10)
  have RFX : Hid (RefAt w10 w7.heap.size zs n) := Lib.hid (Blk.kept RF9.out k10)
  have TX := Lib.hid (T9.out.kept k10)
  have RX := Lib.hid ((R6.out.kept K69.out).kept k10)
  have KWX := Lib.hid ((KW6.out.trans K69.out).trans k10)
  clear hg hbk hA k10 CB R06 R26 R36 C9 S9 RF9 T9 T6 R6 K69
  have LB : Hid (w6.heap.size < w9.heap.size ∧ w7.heap.size < w9.heap.size ∧ w8.heap.size < w9.heap.size ∧ tb < w9.heap.size ∧ rb < w9.heap.size ∧ w9.heap.size ≤ w10.heap.size ∧ w6.heap.size ≤ w9.heap.size) := Lib.hid ⟨L7.out.1, L7.out.2.1, L7.out.2.2, by have := L4.out; have := L7.out.1; omega, by have := L5.out; have := L7.out.1; omega, K10.out.size, by have := L7.out.1; omega⟩
  have HW9 : Hid (w.heap.size ≤ w9.heap.size) := Lib.hid (by have := KW6.out.size; have := LB.out.2.2.2.2.2.2; omega)
  clear L4 L5 L7
  generalize hcb : w6.heap.size = cb at *
  generalize hrf : w7.heap.size = rf at *
  generalize hsb : w8.heap.size = sb at *
  clear hcb hrf hsb
  unfold mapV
  go_wp2_with fail
  obtain ⟨wm, hwm⟩ : ∃ wm, wm = w10.alloc (.cells #[.slice (some ⟨g, 0, none⟩) (srcs zs n) (srcs zs n)] 39) := ⟨_, rfl⟩
  have KM : Hid (Kept w10 wm) := Lib.hid (by rw [hwm]; exact (Kept.refl _).alloc _)
  have BM : Hid (Blk wm w10.heap.size 39 [.slice (some ⟨g, 0, none⟩) (srcs zs n) (srcs zs n)]) := Lib.hid (by rw [hwm]; exact Blk.new _ _ _)
  have SM : Hid (wm.heap.size = w10.heap.size + 1) := Lib.hid (by rw [hwm]; simp)
  have B0 : Hid (Blk (wm.alloc (.cells C 3)) (w10.heap.size + 1) 3 (fillV (fun i => .int .i64 (R i : Int)) (.int .i64 0) n 0) ∧ Kept wm (wm.alloc (.cells C 3))) := Lib.hid ⟨by rw [← SM.out]; exact blkMade HC.out _, (Kept.refl _).alloc _⟩
  rw [← hwm]
  clear hwm
  go_loopw [17, 19] (fun t17 t19 wr => ∃ k : Nat, k ≤ n ∧ t19 = .int .i64 (k : Int) ∧ t17 = .int .u32 ((sumK T us k % 4294967296 : Nat) : Int) ∧ Hid (Blk wr (w10.heap.size + 1) 3 (fillV (fun i => .int .i64 (R i : Int)) (.int .i64 0) n k) ∧ Kept wm wr)) (fun _ t19 _ => n - (intOf t19).toNat)
  case atStart => exact ⟨0, by omega, rfl, rfl, B0⟩
  case round =>
    obtain ⟨k, hk, rfl, rfl, HB⟩ := hrel
    clear B0
    by_cases hlt : k < n
    · have hki : (k : Int) < (n : Int) := by omega
      have KR : Hid (Kept w10 wr) := Lib.hid (KM.out.trans HB.out.2)
      have c1 : wr.cell? ⟨w10.heap.size + 1, k, none⟩ = some (.int .i64 0) := by rw [HB.out.1.cell, fillV_at _ _ hlt]
      have f1 := HB.out.1.free k
      have c2 := KR.out.cell (RX.out.2 k (by simpa using hlt))
      have er : ((List.range n).map fun i => (R i : Int)).getD k 0 = (R k : Int) := by simp [hlt]
      rw [er] at c2
      have HRX : Hid (Blk (wr.setCell ⟨w10.heap.size + 1, k, none⟩ (.int .i64 (R k : Int))) (w10.heap.size + 1) 3 (fillV (fun i => .int .i64 (R i : Int)) (.int .i64 0) n (k + 1)) ∧ Kept wm (wr.setCell ⟨w10.heap.size + 1, k, none⟩ (.int .i64 (R k : Int)))) := Lib.hid ⟨by
        have h := HB.out.1.set k (.int .i64 (R k : Int))
        rw [fillV_set (fun i => Value.int .i64 (R i : Int)) (.int .i64 0) hlt] at h
        exact h, HB.out.2.setCell (by have := SM.out; show wm.heap.size ≤ w10.heap.size + 1; omega) _⟩
      have KR2 : Hid (Kept w10 (wr.setCell ⟨w10.heap.size + 1, k, none⟩ (.int .i64 (R k : Int)))) := Lib.hid (KM.out.trans HRX.out.2)
      have c3 := KR2.out.cell (TX.out.2 k (by simpa using hlt))
      have et : ((List.range n).map T).getD k 0 = T k := by simp [hlt]
      rw [et] at c3
      have C16 := Lib.hid (at32C p2 nu nu k us _ (R2X.out.kept KR2.out) (by omega) (by omega))
      have hsum : sumK T us (k + 1) = sumK T us k + (if T k < 0 then (us.getD k 0).toNat else 0) := rfl
      have hu := HU.out k
      clear er et KR
      by_cases hneg : T k < 0
      · rw [if_pos hneg] at hsum
        have HV : Hid (((sumK T us (k + 1) % 4294967296 : Nat) : Int) = (((sumK T us k % 4294967296 : Nat) : Int) + us.getD k 0) % 4294967296) := Lib.hid (by rw [hsum]; omega)
        have hb : ((sumK T us k % 4294967296 : Nat) : Int) ≤ 4294967295 := by omega
        have hb0 : 0 ≤ ((sumK T us k % 4294967296 : Nat) : Int) := by omega
        clear hsum
        generalize us.getD k 0 = uk at *
        generalize T k = tk at *
        generalize ((sumK T us k % 4294967296 : Nat) : Int) = sk at *
        go_wp2_with fail
        refine C16.out.mono ?_
        rintro e w' ⟨rfl, rfl⟩
        go_wp2_with fail
        go_roundw
        case rel => exact ⟨k + 1, by omega, by go_num, by rw [HV.out], HRX⟩
        case measure => simp [intOf]; omega
      · rw [if_neg hneg] at hsum
        have HV : Hid (((sumK T us (k + 1) % 4294967296 : Nat) : Int) = ((sumK T us k % 4294967296 : Nat) : Int)) := Lib.hid (by rw [hsum]; simp)
        clear hsum C16
        generalize T k = tk at *
        generalize ((sumK T us k % 4294967296 : Nat) : Int) = sk at *
        go_wp2_with fail
        go_roundw
        case rel => exact ⟨k + 1, by omega, by go_num, by rw [HV.out], HRX⟩
        case measure => simp [intOf]; omega
    · obtain rfl : n = k := by omega
      have KL := KM.out.trans HB.out.2
      have A2 : Hid (Arena wr g bk (srcs zs n) (lay zs n (symI zs n T us []))) := Lib.hid (HA.out.kept KL)
      have U2 : Hid (Uf zs n (lay zs n (symI zs n T us [])) R (rootSum zs n (lay zs n (symI zs n T us [])))) := Lib.hid (start HS.out hn HTL.out HCH.out)
      have L2 : Hid (Blk wr (w10.heap.size + 1) 3 (rowF .i64 n fun x => (R x : Int))) := Lib.hid (by
        have h := HB.out.1
        have e : fillV (fun i => Value.int .i64 (R i : Int)) (.int .i64 0) n n = rowF .i64 n fun x => (R x : Int) := by
          unfold fillV rowF
          exact List.map_congr_left fun j hj => by rw [if_pos (List.mem_range.1 hj)]
        rwa [e] at h)
      have KL := Lib.hid KL
      go_wp2_with fail
      have hhp : ((np : Int) / 2) = ((np / 2 : Nat) : Int) := by omega
      rw [hhp]
      clear hhp
      generalize hop : np / 2 = op at *
      have HOP := Lib.hid hop
      clear hop
      generalize hs17 : (((sumK T us n) % 4294967296 : Nat) : Int) = s17 at *
      have HS17 := Lib.hid hs17
      clear hs17
      obtain ⟨w12, hw12⟩ : ∃ w12 : World, w12 = wr := ⟨_, rfl⟩
      subst hw12
      have HB12 := HB
      generalize hB0 : rootSum zs n (lay zs n (symI zs n T us [])) = B at *
      have HB0 := Lib.hid hB0
      clear hB0 HB
      have hbk2 := HBK.out
      have hpos : 0 < w.heap.size := World.block_lt_of_cell? w _ HI.out.1
      have hlt10 : ∀ s, s < srcs zs n → bk s < w10.heap.size := fun s hs => HA.out.lt hs
      have hg10 : g < w10.heap.size := HA.out.outer.lt
      have hwk := HW9.out
      have I12 : Inv w12 := ((HI.out.kept KWX.out).kept KL.out)
      obtain ⟨P, hP⟩ : ∃ P : Pl, P = ⟨g, bk, w10.heap.size + 1, w10.heap.size, rf, cb, sb⟩ := ⟨_, rfl⟩
      have ST : Hid (St P zs n w12 w12 (lay zs n (symI zs n T us [])) R) := Lib.hid (by
        subst hP
        have hl := LB.out
        refine ⟨(BM.out.kept HB12.out.2), Blk.kept RFX.out KL.out, CX.out.kept KL.out, SX.out.kept KL.out, I12, A2.out, L2.out, Turn.refl _ _ _, fun s hs => ?_, ?_⟩
        · have h1 := hbk2 s hs
          have h2 := hlt10 s hs
          refine ⟨?_, ?_, ?_, ?_, ?_, ?_⟩ <;> simp only <;> omega
        · refine ⟨?_, ?_, ?_, ?_, ?_, ?_⟩ <;> simp only <;> omega)
      have hS6 : srcs zs n ≤ 1048576 := by have := HS.out; omega
      have HS6 := Lib.hid hS6
      have HPP := Lib.hid hP
      have HPB : Hid (0 < np → ∀ b o, p3 = some ⟨b, o, none⟩ → b < w9.heap.size) := Lib.hid (fun h0 b o e => by
        obtain ⟨b2, o2, e2, h2⟩ := HP4.out h0
        rw [e2] at e
        obtain ⟨rfl, rfl⟩ : b2 = b ∧ o2 = o := by simpa using e
        have := LB.out
        omega)
      clear hP hbk2 hlt10 hg10 I12 A2 L2 HB12 hS6
      go_loopw [21] (fun t21 wx => C21 P zs n w12 B op t21 wx) (fun t21 _ => op - (intOf t21).toNat)
      case atStart => exact ⟨0, _, R, by omega, by go_num, Lib.hid ⟨ST.out, U2.out⟩⟩
      case round =>
        obtain ⟨j, τ, lab, hj, rfl, H2⟩ := hrel
        have R3Y := R3X
        by_cases hlt2 : j < op
        · skip
          --G{
          have hop2 := HOP.out
          obtain ⟨pb, po, rfl, hpb, hpc⟩ := R3X.out.2 (by omega)
          have hj2 : (j : Int) < (op : Int) := by omega
          have hjn : 2 * (j : Int) < (np : Int) := by omega
          have hjn1 : 2 * (j : Int) + 1 < (np : Int) := by omega
          have NP : Hid (∀ s, s < srcs zs n + 1 → bkL P.bk (srcs zs n) P.lb s ≠ pb) := Lib.hid (by
            have h1 := HPB.out (by omega) pb po rfl
            have h2 := HBK.out
            have h3 := LB.out
            rw [HPP.out]
            exact bkL_ne (fun s hs => by have := h2 s hs; simp only; omega) (by simp only; omega))
          have px := H2.out.1.tu.cell (KL.out.cell (hpc (2 * j) (by omega))) NP.out
          have py := H2.out.1.tu.cell (KL.out.cell (hpc (2 * j + 1) (by omega))) NP.out
          have hx := HP.out (2 * j)
          have hy := HP.out (2 * j + 1)
          clear hpc hop2
          generalize ps.getD (2 * j) 0 = p1 at *
          generalize ps.getD (2 * j + 1) 0 = p2 at *
          obtain ⟨xo, hxo, exo, wxo, hxoi⟩ := modN p1 hn0 hn
          obtain ⟨xw, hxw, exw, wxw, hxwi⟩ := modN p2 hn0 hn
          have HMK := Lib.hid (mergeK H2.out.1 H2.out.2 hxo hxw)
          have HRD := Lib.hid (H2.out.1.rds hxo hxw)
          have HLW := Lib.hid (H2.out.1.low)
          have HLS : Hid (∀ s, s < srcs zs n → P.bk s < wr.heap.size) := Lib.hid (fun s hs => H2.out.1.ar.lt hs)
          have HLB := Lib.hid (H2.out.1.lab)
          have hP := HPP.out
          subst hP
          simp only [Rds, Cells0] at HMK HRD
          unfold mapV refV at HMK
          have HN6 : Hid (∀ s, s < srcs zs n → bk s ≠ wr.heap.size) := Lib.hid (fun s hs => by have := HLS.out s hs; simp only at this; omega)
          obtain ⟨x0, x1, x2, x3, x4⟩ := HRD.out
          clear HRD
          generalize hro : ref zs n xo = ro at *
          generalize hrw : ref zs n xw = rw0 at *
          have HRO := Lib.hid hro
          have HRW := Lib.hid hrw
          clear hro hrw
          clear wxo wxw
          go_upto_region 42 with (fail)
          go_cut [24] (fun t24 W => C42 ⟨g, bk, w10.heap.size + 1, w10.heap.size, rf, cb, sb⟩ zs n w12 wr lab (fun x => if lab x = lab xo then lab xw else lab x) B xo xw t24 W)
          case first =>
            --F{
            have n0 := World.new_ne wr ⟨w10.heap.size, 0, none⟩ x0
            have n1 := World.new_ne wr ⟨rf, xo * 2, none⟩ x1
            go_region_held3 (fun W => W.cell? ⟨w10.heap.size, 0, none⟩ = some (.slice (some ⟨g, 0, none⟩) (srcs zs n) (srcs zs n)) ∧ W.cell? ⟨rf, xo * 2, none⟩ = some (.int .u32 (ro.1 : Int)) ∧ W.cell? ⟨rf, xo * 2 + 1, none⟩ = some (.int .u32 (ro.2 : Int)) ∧ W.cell? ⟨rf, xw * 2, none⟩ = some (.int .u32 (rw0.1 : Int)) ∧ W.cell? ⟨rf, xw * 2 + 1, none⟩ = some (.int .u32 (rw0.2 : Int))) (first | go_keep)
              (first | (go_at_call 17; refine (HMK.out _ ?_ wr.heap.size HN6).mono ?_; (repeat (first | exact Kept.refl _ | apply Kept.drew | apply Kept.alloc)); rintro e w' ⟨r, rt, τ2, rfl, ⟨t0, t1, t2, t3, t4⟩, ⟨u0, u1⟩, hR, hT⟩))
            all_goals
              first
              | have HAF := Lib.hid (aftA HLS.out hR.out hT.out r)
                generalize w'.alloc (.cells #[.int .u32 (r.1 : Int), .int .u32 (r.2 : Int)] 44) = w3 at *
                generalize w'.heap.size = n6 at *
              | have HAF := Lib.hid (aftB HLS.out hR.out hT.out HLW.out r)
                generalize (w'.setCell ⟨wr.heap.size, 0, none⟩ (.int .u32 (r.1 : Int))).setCell ⟨wr.heap.size, 1, none⟩ (.int .u32 (r.2 : Int)) = w3 at *
                generalize wr.heap.size = n6 at *
            all_goals
              clear u0 u1 t0 t1 t2 t3 t4
              go_wp2_with fail
              go_meet
              exact ⟨_, r, rt, τ2, rfl, HAF⟩
            --F}
          case rest =>
            obtain ⟨b24, r, rt, τ2, rfl, HAF⟩ := hcut
            have HRc := Lib.hid HAF.out.rnd
            have y0 := HAF.out.var.blk.cell 0
            have y1 := HAF.out.var.blk.cell 1
            have HFL := Lib.hid (flatK HRc.out hn HS.out cc)
            unfold refV at HFL
            clear HMK HLW HLS HLB HN6 x0 x1 x2 x3 x4 px py H2
            simp only at HFL
            go_wp2_with fail
            refine HFL.out.mono ?_
            rintro e w5 ⟨⟨xf, rfl⟩, hk5⟩
            have HRw5 := Lib.hid (HRc.out.kept hk5)
            have HV5 := Lib.hid (HAF.out.var.turn (Turn.of_kept hk5 _ _))
            clear HRc y0 y1 HFL HAF hk5
            have HFK := Lib.hid (followK HRw5.out HS6.out hxo hxw HRw5.out.co)
            have HRD := Lib.hid (HRw5.out.st.rds hxo hxw)
            have HLW := Lib.hid (HRw5.out.st.low)
            have HLS : Hid (∀ s, s < srcs zs n → bk s < w5.heap.size) := Lib.hid (fun s hs => HRw5.out.st.ar.lt hs)
            simp only [Rds, Cells0] at HFK HRD
            unfold mapV refV at HFK
            rw [HRO.out, HRW.out] at HRD
            simp only [HRO.out, HRW.out] at HFK
            have HN6 : Hid (∀ s, s < srcs zs n → bk s ≠ w5.heap.size) := Lib.hid (fun s hs => by have := HLS.out s hs; omega)
            obtain ⟨x0, x1, x2, x3, x4⟩ := HRD.out
            clear HRD
            go_upto_region 45 with (fail)
            go_cut [25] (fun tv W => C45 ⟨g, bk, w10.heap.size + 1, w10.heap.size, rf, cb, sb⟩ zs n w12 w5 lab (fun x => if lab x = lab xo then lab xw else lab x) B xo xw r rt tv W)
            case first =>
              --F{
              have n0 := World.new_ne w5 ⟨w10.heap.size, 0, none⟩ x0
              have n1 := World.new_ne w5 ⟨rf, xo * 2, none⟩ x1
              go_region_held3 (fun W => W.cell? ⟨w10.heap.size, 0, none⟩ = some (.slice (some ⟨g, 0, none⟩) (srcs zs n) (srcs zs n)) ∧ W.cell? ⟨rf, xo * 2, none⟩ = some (.int .u32 (ro.1 : Int)) ∧ W.cell? ⟨rf, xo * 2 + 1, none⟩ = some (.int .u32 (ro.2 : Int)) ∧ W.cell? ⟨rf, xw * 2, none⟩ = some (.int .u32 (rw0.1 : Int)) ∧ W.cell? ⟨rf, xw * 2 + 1, none⟩ = some (.int .u32 (rw0.2 : Int))) (first | go_keep)
                (first | (go_at_call 19; refine (HFK.out _ ?_ w5.heap.size HN6).mono ?_; (repeat (first | exact Kept.refl _ | apply Kept.drew | apply Kept.alloc)); rintro e w' ⟨τ3, rfl, ⟨t0, t1, t2, t3, t4⟩, ⟨u0, u1⟩, hR, hT⟩))
              all_goals
                first
                | have HAF2 := Lib.hid (aftA HLS.out hR.out hT.out rt)
                  generalize w'.alloc (.cells #[.int .u32 (rt.1 : Int), .int .u32 (rt.2 : Int)] 44) = w3 at *
                  generalize w'.heap.size = n6 at *
                | have HAF2 := Lib.hid (aftB HLS.out hR.out hT.out HLW.out rt)
                  generalize (w'.setCell ⟨w5.heap.size, 0, none⟩ (.int .u32 (rt.1 : Int))).setCell ⟨w5.heap.size, 1, none⟩ (.int .u32 (rt.2 : Int)) = w3 at *
                  generalize w5.heap.size = n6 at *
              all_goals
                clear u0 u1 t0 t1 t2 t3 t4
                go_wp2_with fail
                go_meet
                exact ⟨_, τ3, rfl, HAF2⟩
              --F}
            obtain ⟨wA, hwA⟩ : ∃ wA : World, wA = wc := ⟨_, rfl⟩
            subst hwA
            obtain ⟨b25, τ3, rfl, HAF2⟩ := hcut
            have HRwA := Lib.hid HAF2.out.rnd
            have HVA24 := Lib.hid (HV5.out.turn HAF2.out.tu)
            have HVA25 := Lib.hid HAF2.out.var
            clear HFK HLW HLS HN6 x0 x1 x2 x3 x4 HAF2 HRw5 HV5
            have HFK := Lib.hid (followK HRwA.out HS6.out hxo hxw HRwA.out.cw)
            have HRD := Lib.hid (HRwA.out.st.rds hxo hxw)
            have HLW := Lib.hid (HRwA.out.st.low)
            have HLS : Hid (∀ s, s < srcs zs n → bk s < wA.heap.size) := Lib.hid (fun s hs => HRwA.out.st.ar.lt hs)
            simp only [Rds, Cells0] at HFK HRD
            unfold mapV refV at HFK
            rw [HRO.out, HRW.out] at HRD
            simp only [HRO.out, HRW.out] at HFK
            have HN6 : Hid (∀ s, s < srcs zs n → bk s ≠ wA.heap.size) := Lib.hid (fun s hs => by have := HLS.out s hs; omega)
            obtain ⟨x0, x1, x2, x3, x4⟩ := HRD.out
            clear HRD
            go_upto_region 46 with (fail)
            go_cut [26] (fun tv W => C45 ⟨g, bk, w10.heap.size + 1, w10.heap.size, rf, cb, sb⟩ zs n w12 wA lab (fun x => if lab x = lab xo then lab xw else lab x) B xo xw r rt tv W)
            case first =>
              --F{
              have n0 := World.new_ne wA ⟨w10.heap.size, 0, none⟩ x0
              have n1 := World.new_ne wA ⟨rf, xo * 2, none⟩ x1
              go_region_held3 (fun W => W.cell? ⟨w10.heap.size, 0, none⟩ = some (.slice (some ⟨g, 0, none⟩) (srcs zs n) (srcs zs n)) ∧ W.cell? ⟨rf, xo * 2, none⟩ = some (.int .u32 (ro.1 : Int)) ∧ W.cell? ⟨rf, xo * 2 + 1, none⟩ = some (.int .u32 (ro.2 : Int)) ∧ W.cell? ⟨rf, xw * 2, none⟩ = some (.int .u32 (rw0.1 : Int)) ∧ W.cell? ⟨rf, xw * 2 + 1, none⟩ = some (.int .u32 (rw0.2 : Int))) (first | go_keep)
                (first | (go_at_call 19; refine (HFK.out _ ?_ wA.heap.size HN6).mono ?_; (repeat (first | exact Kept.refl _ | apply Kept.drew | apply Kept.alloc)); rintro e w' ⟨τ4, rfl, ⟨t0, t1, t2, t3, t4⟩, ⟨u0, u1⟩, hR, hT⟩))
              all_goals
                first
                | have HAF2 := Lib.hid (aftA HLS.out hR.out hT.out rt)
                  generalize w'.alloc (.cells #[.int .u32 (rt.1 : Int), .int .u32 (rt.2 : Int)] 44) = w3 at *
                  generalize w'.heap.size = n6 at *
                | have HAF2 := Lib.hid (aftB HLS.out hR.out hT.out HLW.out rt)
                  generalize (w'.setCell ⟨wA.heap.size, 0, none⟩ (.int .u32 (rt.1 : Int))).setCell ⟨wA.heap.size, 1, none⟩ (.int .u32 (rt.2 : Int)) = w3 at *
                  generalize wA.heap.size = n6 at *
              all_goals
                clear u0 u1 t0 t1 t2 t3 t4
                go_wp2_with fail
                go_meet
                exact ⟨_, τ4, rfl, HAF2⟩
              --F}
            obtain ⟨wB, hwB⟩ : ∃ wB : World, wB = wc := ⟨_, rfl⟩
            subst hwB
            obtain ⟨b26, τ4, rfl, HAF2⟩ := hcut
            have HRwB := Lib.hid HAF2.out.rnd
            have HVB24 := Lib.hid (HVA24.out.turn HAF2.out.tu)
            have HVB25 := Lib.hid (HVA25.out.turn HAF2.out.tu)
            have HVB26 := Lib.hid HAF2.out.var
            clear HFK HLW HLS HN6 x0 x1 x2 x3 x4 HAF2 HRwA HVA24 HVA25
            have HFK := Lib.hid (followK HRwB.out HS6.out hxo hxw HRwB.out.cr)
            have x0 := (HRwB.out.st.rds hxo hxw).1
            have y0 := HVB24.out.blk.cell 0
            have y1 := HVB24.out.blk.cell 1
            simp only at x0
            unfold mapV refV at HFK
            have HN6 : Hid (∀ s, s < srcs zs n → bk s ≠ wB.heap.size) := Lib.hid (fun s hs => by have := HRwB.out.st.ar.lt hs; simp only at this; omega)
            have HNE := neSame
            go_wp2_with fail
            refine (HFK.out _ (by first | exact Kept.refl _ | exact (Kept.refl _).drew) wB.heap.size HN6).mono ?_
            rintro e w7 ⟨τ5, rfl, _, _, hR7, hT7⟩
            go_upto_region 48 with (fail)
            obtain ⟨w8, hw8⟩ : ∃ w8, w8 = w7.alloc (.cells #[.int .u32 (rt.1 : Int), .int .u32 (rt.2 : Int)] 44) := ⟨_, rfl⟩
            have HR8 : Hid (Rnd ⟨g, bk, w10.heap.size + 1, w10.heap.size, rf, cb, sb⟩ zs n w12 w8 τ5 lab (fun x => if lab x = lab xo then lab xw else lab x) B xo xw r rt) := Lib.hid (by rw [hw8]; exact hR7.out.kept ((Kept.refl _).alloc _))
            have HT8 : Hid (Turn wB w8 bk (srcs zs n)) := Lib.hid (by rw [hw8]; exact hT7.out.alloc _)
            have d0 : w8.cell? ⟨b25, 0, none⟩ = some (.int .u32 (rt.1 : Int)) := (HVB25.out.turn HT8.out).blk.cell 0
            have d1 : w8.cell? ⟨b25, 1, none⟩ = some (.int .u32 (rt.2 : Int)) := (HVB25.out.turn HT8.out).blk.cell 1
            have d2 : w8.cell? ⟨b26, 0, none⟩ = some (.int .u32 (rt.1 : Int)) := (HVB26.out.turn HT8.out).blk.cell 0
            have d3 : w8.cell? ⟨b26, 1, none⟩ = some (.int .u32 (rt.2 : Int)) := (HVB26.out.turn HT8.out).blk.cell 1
            have BN : Hid (Blk w8 w7.heap.size 44 [.int .u32 (rt.1 : Int), .int .u32 (rt.2 : Int)]) := Lib.hid (by rw [hw8]; exact Blk.new _ _ _)
            have d4 : w8.cell? ⟨w7.heap.size, 0, none⟩ = some (.int .u32 (rt.1 : Int)) := BN.out.cell 0
            have d5 : w8.cell? ⟨w7.heap.size, 1, none⟩ = some (.int .u32 (rt.2 : Int)) := BN.out.cell 1
            rw [← hw8]
            clear hw8 hR7 hT7 x0 y0 y1 HFK HN6 HRwB HVB24 HVB25 HVB26
            go_upto_region 50 with (fail)
            have l1 : w8.cell? ⟨w10.heap.size + 1, xo, none⟩ = some (.int .i64 (lab xo : Int)) := HR8.out.st.labAt hxo
            have l2 : w8.cell? ⟨w10.heap.size + 1, xw, none⟩ = some (.int .i64 (lab xw : Int)) := HR8.out.st.labAt hxw
            clear d0 d1 d2 d3 d4 d5 BN HT8 HNE
            obtain ⟨lo, hlo⟩ : ∃ lo, lab xo = lo := ⟨_, rfl⟩
            obtain ⟨lw, hlw⟩ : ∃ lw, lab xw = lw := ⟨_, rfl⟩
            rw [hlo] at l1
            rw [hlw] at l2
            have HLO := Lib.hid hlo
            have HLW := Lib.hid hlw
            clear hlo hlw
            by_cases hll : lo = lw
            · subst hll
              have HRR : Hid (C21 ⟨g, bk, w10.heap.size + 1, w10.heap.size, rf, cb, sb⟩ zs n w12 B op (.int .i64 ((j : Int) + 1)) w8) := Lib.hid ⟨j + 1, τ5, (fun x => if lab x = lab xo then lab xw else lab x), by omega, by go_num, Lib.hid ⟨HR8.out.st.congr (fun x _ => by
                by_cases e : lab x = lab xo
                · rw [if_pos e, HLW.out, e, HLO.out]
                · rw [if_neg e]), HR8.out.uf⟩⟩
              go_wp2_with fail
              go_roundw
              case rel => first | exact HRR.out | ((repeat apply Exists.intro); exact ⟨HRR.out, rfl⟩)
              case measure => simp [intOf]; omega
            · have hne : ((lo : Int) == (lw : Int)) = false := by simp; omega
              have HA30 : Hid (C30 ⟨g, bk, w10.heap.size + 1, w10.heap.size, rf, cb, sb⟩ zs n w12 τ5 lab xo xw (.int .i64 0) w8) := Lib.hid ⟨0, by omega, by go_num, Lib.hid (HR8.out.st.congr (fun x _ => by rw [if_neg (fun hh => absurd hh.1 (by omega))]))⟩
              have HU8 := Lib.hid HR8.out.uf
              clear HR8
              go_wp2_with fail
              go_loopw [30] (fun t30 wy => C30 ⟨g, bk, w10.heap.size + 1, w10.heap.size, rf, cb, sb⟩ zs n w12 τ5 lab xo xw t30 wy) (fun t30 _ => n - (intOf t30).toNat)
              case atStart => exact HA30.out
              case round =>
                obtain ⟨k, hk, rfl, HB⟩ := hrel
                clear HA30 l1 l2
                by_cases hkn : k < n
                · have hki : (k : Int) < (n : Int) := by omega
                  have l1 : wr.cell? ⟨w10.heap.size + 1, k, none⟩ = some (.int .i64 (lab k : Int)) := by
                    have h := HB.out.labAt hkn
                    rw [if_neg (fun hh => absurd hh.1 (by omega))] at h
                    exact h
                  have l3 : wr.frozen? ⟨w10.heap.size + 1, k, none⟩ = false := HB.out.lab.free k
                  obtain ⟨lk, hlk⟩ : ∃ lk, lab k = lk := ⟨_, rfl⟩
                  rw [hlk] at l1
                  have HLK := Lib.hid hlk
                  clear hlk
                  by_cases hlo : lk = lo
                  · subst hlo
                    have HRR : Hid (C30 ⟨g, bk, w10.heap.size + 1, w10.heap.size, rf, cb, sb⟩ zs n w12 τ5 lab xo xw (.int .i64 ((k : Int) + 1)) (wr.setCell ⟨w10.heap.size + 1, k, none⟩ (.int .i64 (lw : Int)))) := Lib.hid ⟨k + 1, by omega, by go_num, Lib.hid (by
                      rw [← HLW.out]
                      exact HB.out.step hkn (HLK.out.trans HLO.out.symm))⟩
                    go_wp2_with fail
                    go_roundw
                    case rel => first | exact HRR.out | ((repeat apply Exists.intro); exact ⟨HRR.out, rfl⟩)
                    case measure => simp [intOf]; omega
                  · have hlo2 : ((lk : Int) == (lo : Int)) = false := by simp; omega
                    have HRR : Hid (C30 ⟨g, bk, w10.heap.size + 1, w10.heap.size, rf, cb, sb⟩ zs n w12 τ5 lab xo xw (.int .i64 ((k : Int) + 1)) wr) := Lib.hid ⟨k + 1, by omega, by go_num, Lib.hid (HB.out.stay (by rw [HLK.out, HLO.out]; exact hlo))⟩
                    go_wp2_with fail
                    go_roundw
                    case rel => first | exact HRR.out | ((repeat apply Exists.intro); exact ⟨HRR.out, rfl⟩)
                    case measure => simp [intOf]; omega
                · obtain rfl : n = k := by omega
                  have HRR : Hid (C21 ⟨g, bk, w10.heap.size + 1, w10.heap.size, rf, cb, sb⟩ zs n w12 B op (.int .i64 ((j : Int) + 1)) wr) := Lib.hid ⟨j + 1, τ5, (fun x => if lab x = lab xo then lab xw else lab x), by omega, by go_num, Lib.hid ⟨HB.out.congr (fun x hx => by
                    by_cases e : lab x = lab xo
                    · rw [if_pos ⟨hx, e⟩, if_pos e]
                    · rw [if_neg (fun hh => e hh.2), if_neg e]), HU8.out⟩⟩
                  go_wp2_with fail
                  go_roundw
                  case rel => first | exact HRR.out | ((repeat apply Exists.intro); exact ⟨HRR.out, rfl⟩)
                  case measure => simp [intOf]; omega
          --G}
        · obtain rfl : op = j := by omega
          have hP := HPP.out
          subst hP
          have HST := Lib.hid H2.out.1
          have HUF := Lib.hid H2.out.2
          have KW2 : Hid (Kept w wr) := Lib.hid (H2.out.1.below (KWX.out.trans KL.out) (fun s hs => by have := HBK.out s hs; have := HW9.out; simp only; omega) (by have := HW9.out; have := LB.out; simp only; omega))
          have x0 := H2.out.1.box.cell 0
          simp only at x0
          have CRD := Lib.hid (p236.readC wr g bk τ rf cb cc sb n zs (uf.tgt zs n τ) H2.out.1.ar H2.out.1.refs H2.out.1.cnts H2.out.1.sts hn HS.out (fun x hx => H2.out.2.val hx) (fun x hx => H2.out.2.tgt_or HS6.out hx))
          unfold mapV at CRD
          clear H2
          go_wp2_with fail
          refine CRD.out.mono ?_
          rintro e w13 ⟨rfl, hT13, k13⟩
          have T13 := Lib.hid hT13
          have K13 := Lib.hid (KW2.out.trans k13)
          have KR13 := Lib.hid k13
          have HTT : Hid (∀ i, i < n → uf.tgt zs n τ i < (n : Int)) := Lib.hid (fun i hi => HUF.out.tgt_lt HS6.out hi)
          have CRT := Lib.hid (arr2.rootsC (wr.heap.size + 1) n n (uf.tgt zs n τ) w13 hT13 HTT.out (fun x hx => by
            obtain ⟨e, r, hc⟩ := HUF.out.ends _ (HUF.out.val hx)
            obtain ⟨y, _, _, h2⟩ := HUF.out.fchain HS6.out e x r hx hc
            exact ⟨e, y, h2⟩) hn0 hn)
          clear hT13 k13 CRD x0
          go_wp2_with fail
          refine CRT.out.mono ?_
          rintro e w14 ⟨k14, R2, rfl, hR14, hch2⟩
          have R14 := Lib.hid hR14
          have CLS := Lib.hid (HUF.out.classes HS6.out hch2)
          have K14 := Lib.hid (K13.out.trans k14)
          have KR14 := Lib.hid (KR13.out.trans k14)
          have T14 := Lib.hid (T13.out.kept k14)
          have L14 := Lib.hid (HST.out.lab.kept KR14.out)
          have AR14 := Lib.hid (HST.out.ar.kept KR14.out)
          have RF14 : Hid (RefAt w14 rf zs n) := Lib.hid (Blk.kept HST.out.refs KR14.out)
          have BX14 := Lib.hid (HST.out.box.kept KR14.out)
          clear k14 hR14 hch2 CRT T13 K13 KR13
          simp only at L14 AR14 RF14 BX14
          generalize w13.heap.size = rb2 at *
          generalize wr.heap.size + 1 = tb2 at *
          go_upto_region 66 with (fail)
          obtain ⟨wm4, hwm4⟩ : ∃ wm4, wm4 = (w14.alloc (.cells C 3)).alloc (.cells C 3) := ⟨_, rfl⟩
          have HM4 : Hid (C37 w14 w14.heap.size (w14.heap.size + 1) n (.int .i64 0) wm4) := Lib.hid ⟨0, Nat.zero_le _, rfl, Lib.hid (by
            rw [hwm4]
            refine ⟨(blkMade HC.out _).alloc _, ?_, ((Kept.refl _).alloc _).alloc _⟩
            have h := blkMade (t := 3) (w := w14.alloc (.cells C 3)) HC.out (fun _ => Value.int .i64 (-1))
            simpa using h)⟩
          rw [← hwm4]
          clear hwm4
          go_wp2_with fail
          go_loopw [37] (fun t37 W => C37 w14 w14.heap.size (w14.heap.size + 1) n t37 W) (fun t37 _ => n - (intOf t37).toNat)
          case atStart => exact HM4.out
          case round =>
            obtain ⟨k, hk, rfl, HB⟩ := hrel
            clear HM4
            by_cases hkn : k < n
            · have hki : (k : Int) < (n : Int) := by omega
              have c1 : wr.cell? ⟨w14.heap.size, k, none⟩ = some (.int .i64 0) := by rw [HB.out.1.cell, fillV_at _ _ hkn]
              have c2 : wr.cell? ⟨w14.heap.size + 1, k, none⟩ = some (.int .i64 0) := by rw [HB.out.2.1.cell, fillV_at _ _ hkn]
              have f1 := HB.out.1.free k
              have f2 := HB.out.2.1.free k
              have HRR : Hid (C37 w14 w14.heap.size (w14.heap.size + 1) n (.int .i64 ((k : Int) + 1)) ((wr.setCell ⟨w14.heap.size, k, none⟩ (.int .i64 (-1))).setCell ⟨w14.heap.size + 1, k, none⟩ (.int .i64 (-1)))) := Lib.hid ⟨k + 1, by omega, by go_num, Lib.hid (by
                refine ⟨?_, ?_, (HB.out.2.2.setCell (Nat.le_refl _) _).setCell (Nat.le_succ _) _⟩
                · have h := (HB.out.1.set k (.int .i64 (-1))).far (p := ⟨w14.heap.size + 1, k, none⟩) (by show w14.heap.size ≠ w14.heap.size + 1; omega) (.int .i64 (-1))
                  rw [fillV_set (fun _ => Value.int .i64 (-1)) (.int .i64 0) hkn] at h
                  exact h
                · have h := (HB.out.2.1.far (p := ⟨w14.heap.size, k, none⟩) (by show w14.heap.size + 1 ≠ w14.heap.size; omega) (.int .i64 (-1))).set k (.int .i64 (-1))
                  rw [fillV_set (fun _ => Value.int .i64 (-1)) (.int .i64 0) hkn] at h
                  exact h)⟩
              go_wp2_with fail
              go_roundw
              case rel => first | exact HRR.out | ((repeat apply Exists.intro); exact ⟨HRR.out, rfl⟩)
              case measure => simp [intOf]; omega
            · obtain rfl : n = k := by omega
              have H39 := Lib.hid (C37.last (zs := zs) (τ := τ) (lab := lab) (R := R2) HB.out)
              clear HB
              go_wp2_with fail
              go_loopw [38, 39, 40, 41] (fun t38 t39 _ _ W => C39 w14 w14.heap.size (w14.heap.size + 1) n zs τ lab R2 t38 t39 W) (fun _ t39 _ _ _ => n - (intOf t39).toNat)
              case atStart => exact H39.out
              case round =>
                obtain ⟨k, hk, rfl, rfl, HB⟩ := hrel
                clear H39
                by_cases hkn : k < n
                · have hki : (k : Int) < (n : Int) := by omega
                  have KR := Lib.hid HB.out.2.2
                  have hlk := HUF.out.lt k hkn
                  have hqk := CLS.out.1 k hkn
                  have c18 : wr.cell? ⟨w10.heap.size + 1, k, none⟩ = some (.int .i64 (lab k : Int)) := KR.out.cell (rowAt (f := fun x => (lab x : Int)) L14.out hkn)
                  have c33 : wr.cell? ⟨rb2, k, none⟩ = some (.int .i64 (R2 k : Int)) := KR.out.cell (intAt (f := fun i => (R2 i : Int)) R14.out hkn)
                  have c31 : wr.cell? ⟨tb2, k, none⟩ = some (.int .i64 (uf.tgt zs n τ k)) := KR.out.cell (intAt T14.out hkn)
                  have x0 : wr.cell? ⟨w10.heap.size, 0, none⟩ = some (.slice (some ⟨g, 0, none⟩) (srcs zs n) (srcs zs n)) := KR.out.cell (BX14.out.cell 0)
                  have j0 : wr.cell? ⟨rf, k * 2, none⟩ = some (.int .u32 ((ref zs n k).1 : Int)) := KR.out.cell (RefAt.cells RF14.out hkn).1
                  have j1 : wr.cell? ⟨rf, k * 2 + 1, none⟩ = some (.int .u32 ((ref zs n k).2 : Int)) := KR.out.cell (RefAt.cells RF14.out hkn).2
                  have c35 : wr.cell? ⟨w14.heap.size, lab k, none⟩ = some (.int .i64 ((bij lab R2 k).1 (lab k))) := rowAt HB.out.1 hlk
                  have c36 : wr.cell? ⟨w14.heap.size + 1, R2 k, none⟩ = some (.int .i64 ((bij lab R2 k).2 (R2 k))) := rowAt HB.out.2.1 hqk
                  have f35 := HB.out.1.free (lab k)
                  have f36 := HB.out.2.1.free (R2 k)
                  have hor := bij_or CLS.out.2 hkn
                  have hsum : sumR zs n τ (k + 1) = sumR zs n τ k + (if uf.tgt zs n τ k < 0 then (symAt τ (ref zs n k)).use else 0) := rfl
                  have HCELL := Lib.hid (fun (W : World) (kk : Kept wr W) => (cellK AR14.out (HUF.out.val hkn) W (KR.out.trans kk)).mono (fun e w' h => (show (∃ nm la lb fl kd, e = .returned (.agg #[.pointer none, .string nm, .int .u32 la, .int .u32 lb, .int .u32 ((symAt τ (ref zs n k)).use : Int), .int .u32 0, .int .u32 0, .int .u16 fl, .int .u8 kd, .int .u8 0])) ∧ Kept wr w' from ⟨h.1, kk.trans h.2⟩)))
                  have HSTEP : Hid ((bij lab R2 k).1 (lab k) = -1 → bij lab R2 (k + 1) = (setAt (bij lab R2 k).1 (lab k) (R2 k : Int), setAt (bij lab R2 k).2 (R2 k) (lab k : Int))) := Lib.hid (fun e => by simp only [bij]; rw [if_pos e])
                  have HSTAY : Hid ((bij lab R2 k).1 (lab k) ≠ -1 → bij lab R2 (k + 1) = bij lab R2 k) := Lib.hid (fun e => by simp only [bij]; rw [if_neg e])
                  have hlki : (lab k : Int) < (n : Int) := by omega
                  have hqki : (R2 k : Int) < (n : Int) := by omega
                  rcases hor with ⟨e1, e2⟩ | ⟨e1, e2⟩
                  · rw [e1] at c35
                    rw [e2] at c36
                    have HBX0 : Hid (Blk ((wr.setCell ⟨w14.heap.size, lab k, none⟩ (.int .i64 (R2 k : Int))).setCell ⟨w14.heap.size + 1, R2 k, none⟩ (.int .i64 (lab k : Int))) w14.heap.size 3 (rowF .i64 n (bij lab R2 (k + 1)).1) ∧ Blk ((wr.setCell ⟨w14.heap.size, lab k, none⟩ (.int .i64 (R2 k : Int))).setCell ⟨w14.heap.size + 1, R2 k, none⟩ (.int .i64 (lab k : Int))) (w14.heap.size + 1) 3 (rowF .i64 n (bij lab R2 (k + 1)).2) ∧ Kept w14 ((wr.setCell ⟨w14.heap.size, lab k, none⟩ (.int .i64 (R2 k : Int))).setCell ⟨w14.heap.size + 1, R2 k, none⟩ (.int .i64 (lab k : Int)))) := Lib.hid (by
                      rw [HSTEP.out e1]
                      refine ⟨(rowPut HB.out.1 hlk).far (p := ⟨w14.heap.size + 1, R2 k, none⟩) (by show w14.heap.size ≠ w14.heap.size + 1; omega) _, rowPut (HB.out.2.1.far (p := ⟨w14.heap.size, lab k, none⟩) (by show w14.heap.size + 1 ≠ w14.heap.size; omega) _) hqk, (HB.out.2.2.setCell (Nat.le_refl _) _).setCell (Nat.le_succ _) _⟩)
                    clear HSTEP HSTAY e1 e2 HB
                    generalize hlkE : lab k = lk at *
                    generalize hqkE : R2 k = qk at *
                    go_upto_region 82 with (fail)
                    obtain ⟨WX, hWX⟩ : ∃ WX, WX = ((wr.setCell ⟨w14.heap.size, lk, none⟩ (.int .i64 (qk : Int))).setCell ⟨w14.heap.size + 1, qk, none⟩ (.int .i64 (lk : Int))) := ⟨_, rfl⟩
                    rw [← hWX] at HBX0 ⊢
                    have HBX := HBX0
                    have KX := Lib.hid HBX.out.2.2
                    clear hWX c18 c33 c35 c36 f35 f36 c31 x0 j0 j1 HBX0 HCELL KR
                    have c31 : WX.cell? ⟨tb2, k, none⟩ = some (.int .i64 (uf.tgt zs n τ k)) := KX.out.cell (intAt T14.out hkn)
                    have x0 : WX.cell? ⟨w10.heap.size, 0, none⟩ = some (.slice (some ⟨g, 0, none⟩) (srcs zs n) (srcs zs n)) := KX.out.cell (BX14.out.cell 0)
                    have j0 : WX.cell? ⟨rf, k * 2, none⟩ = some (.int .u32 ((ref zs n k).1 : Int)) := KX.out.cell (RefAt.cells RF14.out hkn).1
                    have j1 : WX.cell? ⟨rf, k * 2 + 1, none⟩ = some (.int .u32 ((ref zs n k).2 : Int)) := KX.out.cell (RefAt.cells RF14.out hkn).2
                    have HCELL2 := Lib.hid (fun (W : World) (kk : Kept WX W) => (cellK AR14.out (HUF.out.val hkn) W (KX.out.trans kk)).mono (fun e w' h => (show (∃ nm la lb fl kd, e = .returned (.agg #[.pointer none, .string nm, .int .u32 la, .int .u32 lb, .int .u32 ((symAt τ (ref zs n k)).use : Int), .int .u32 0, .int .u32 0, .int .u16 fl, .int .u8 kd, .int .u8 0])) ∧ Kept WX w' from ⟨h.1, kk.trans h.2⟩)))
                    have hsum2 := hsum
                    by_cases hneg : uf.tgt zs n τ k < 0
                    · rw [if_pos hneg] at hsum2
                      have HV : Hid (((sumR zs n τ (k + 1) % 4294967296 : Nat) : Int) = (((sumR zs n τ k % 4294967296 : Nat) : Int) + ((symAt τ (ref zs n k)).use : Int)) % 4294967296) := Lib.hid (by rw [hsum2]; omega)
                      have hb : ((sumR zs n τ k % 4294967296 : Nat) : Int) ≤ 4294967295 := by omega
                      have hb0 : 0 ≤ ((sumR zs n τ k % 4294967296 : Nat) : Int) := by omega
                      have hb1 : 0 ≤ ((symAt τ (ref zs n k)).use : Int) := by omega
                      have HFIN := Lib.hid (fun (V : World) (kk : Kept WX V) => (show C39 w14 w14.heap.size (w14.heap.size + 1) n zs τ lab R2 (.int .u32 ((((sumR zs n τ k % 4294967296 : Nat) : Int) + ((symAt τ (ref zs n k)).use : Int)) % 4294967296)) (.int .i64 ((k : Int) + 1)) V from ⟨k + 1, by omega, by go_num, by rw [HV.out], Lib.hid ⟨HBX.out.1.kept kk, HBX.out.2.1.kept kk, HBX.out.2.2.trans kk⟩⟩))
                      have hfld := fieldUse
                      clear hsum hsum2 HV
                      unfold mapV refV at HCELL2
                      generalize ((symAt τ (ref zs n k)).use : Int) = uk at *
                      generalize hpk : ref zs n k = pk at *
                      clear hpk
                      generalize uf.tgt zs n τ k = tk at *
                      generalize ((sumR zs n τ k % 4294967296 : Nat) : Int) = sk at *
                      go_wp2_with fail
                      go_region_held3 (fun W => W.cell? ⟨w10.heap.size, 0, none⟩ = some (.slice (some ⟨g, 0, none⟩) (srcs zs n) (srcs zs n)) ∧ W.cell? ⟨rf, k * 2, none⟩ = some (.int .u32 (pk.1 : Int)) ∧ W.cell? ⟨rf, k * 2 + 1, none⟩ = some (.int .u32 (pk.2 : Int))) (first | exact ⟨hk5.cell x0, hk5.cell j0, hk5.cell j1⟩ | go_keep)
                        (first | (go_at_call 21; refine (HCELL2.out _ ?_).mono ?_; (repeat (first | exact Kept.refl _ | apply Kept.drew)); rintro e w5 ⟨⟨nm, la, lb, fl, kd, rfl⟩, hk5⟩))
                      rename_i hheld
                      clear hheld
                      have HRR := Lib.hid (HFIN.out _ hk5)
                      go_wp2_with fail
                      go_roundw
                      case rel => first | exact HRR.out | ((repeat apply Exists.intro); exact ⟨HRR.out, rfl⟩)
                      case measure => simp [intOf]; omega
                    · rw [if_neg hneg] at hsum2
                      have HRR : Hid (C39 w14 w14.heap.size (w14.heap.size + 1) n zs τ lab R2 (.int .u32 ((sumR zs n τ k % 4294967296 : Nat) : Int)) (.int .i64 ((k : Int) + 1)) WX) := Lib.hid ⟨k + 1, by omega, by go_num, by rw [hsum2, Nat.add_zero], Lib.hid HBX.out⟩
                      clear hsum hsum2 HCELL2
                      generalize uf.tgt zs n τ k = tk at *
                      generalize ((sumR zs n τ k % 4294967296 : Nat) : Int) = sk at *
                      go_wp2_with fail
                      go_roundw
                      case rel => first | exact HRR.out | ((repeat apply Exists.intro); exact ⟨HRR.out, rfl⟩)
                      case measure => simp [intOf]; omega
                  · rw [e1] at c35
                    rw [e2] at c36
                    have hq1 : ((R2 k : Int) == -1) = false := by simp
                    obtain ⟨WX, hWX⟩ : ∃ WX, WX = wr := ⟨_, rfl⟩
                    subst hWX
                    have HBX : Hid (Blk WX w14.heap.size 3 (rowF .i64 n (bij lab R2 (k + 1)).1) ∧ Blk WX (w14.heap.size + 1) 3 (rowF .i64 n (bij lab R2 (k + 1)).2) ∧ Kept w14 WX) := Lib.hid (by
                      rw [HSTAY.out (by rw [e1]; omega)]
                      exact HB.out)
                    clear HSTEP HSTAY e1 e2 HB
                    generalize hlkE : lab k = lk at *
                    generalize hqkE : R2 k = qk at *
                    go_upto_region 82 with (fail)
                    have HCELL2 := HCELL
                    have hsum2 := hsum
                    by_cases hneg : uf.tgt zs n τ k < 0
                    · rw [if_pos hneg] at hsum2
                      have HV : Hid (((sumR zs n τ (k + 1) % 4294967296 : Nat) : Int) = (((sumR zs n τ k % 4294967296 : Nat) : Int) + ((symAt τ (ref zs n k)).use : Int)) % 4294967296) := Lib.hid (by rw [hsum2]; omega)
                      have hb : ((sumR zs n τ k % 4294967296 : Nat) : Int) ≤ 4294967295 := by omega
                      have hb0 : 0 ≤ ((sumR zs n τ k % 4294967296 : Nat) : Int) := by omega
                      have hb1 : 0 ≤ ((symAt τ (ref zs n k)).use : Int) := by omega
                      have HFIN := Lib.hid (fun (V : World) (kk : Kept WX V) => (show C39 w14 w14.heap.size (w14.heap.size + 1) n zs τ lab R2 (.int .u32 ((((sumR zs n τ k % 4294967296 : Nat) : Int) + ((symAt τ (ref zs n k)).use : Int)) % 4294967296)) (.int .i64 ((k : Int) + 1)) V from ⟨k + 1, by omega, by go_num, by rw [HV.out], Lib.hid ⟨HBX.out.1.kept kk, HBX.out.2.1.kept kk, HBX.out.2.2.trans kk⟩⟩))
                      have hfld := fieldUse
                      clear hsum hsum2 HV
                      unfold mapV refV at HCELL2
                      generalize ((symAt τ (ref zs n k)).use : Int) = uk at *
                      generalize hpk : ref zs n k = pk at *
                      clear hpk
                      generalize uf.tgt zs n τ k = tk at *
                      generalize ((sumR zs n τ k % 4294967296 : Nat) : Int) = sk at *
                      go_wp2_with fail
                      go_region_held3 (fun W => W.cell? ⟨w10.heap.size, 0, none⟩ = some (.slice (some ⟨g, 0, none⟩) (srcs zs n) (srcs zs n)) ∧ W.cell? ⟨rf, k * 2, none⟩ = some (.int .u32 (pk.1 : Int)) ∧ W.cell? ⟨rf, k * 2 + 1, none⟩ = some (.int .u32 (pk.2 : Int))) (first | exact ⟨hk5.cell x0, hk5.cell j0, hk5.cell j1⟩ | go_keep)
                        (first | (go_at_call 21; refine (HCELL2.out _ ?_).mono ?_; (repeat (first | exact Kept.refl _ | apply Kept.drew)); rintro e w5 ⟨⟨nm, la, lb, fl, kd, rfl⟩, hk5⟩))
                      rename_i hheld
                      clear hheld
                      have HRR := Lib.hid (HFIN.out _ hk5)
                      go_wp2_with fail
                      go_roundw
                      case rel => first | exact HRR.out | ((repeat apply Exists.intro); exact ⟨HRR.out, rfl⟩)
                      case measure => simp [intOf]; omega
                    · rw [if_neg hneg] at hsum2
                      have HRR : Hid (C39 w14 w14.heap.size (w14.heap.size + 1) n zs τ lab R2 (.int .u32 ((sumR zs n τ k % 4294967296 : Nat) : Int)) (.int .i64 ((k : Int) + 1)) WX) := Lib.hid ⟨k + 1, by omega, by go_num, by rw [hsum2, Nat.add_zero], Lib.hid HBX.out⟩
                      clear hsum hsum2 HCELL2
                      generalize uf.tgt zs n τ k = tk at *
                      generalize ((sumR zs n τ k % 4294967296 : Nat) : Int) = sk at *
                      go_wp2_with fail
                      go_roundw
                      case rel => first | exact HRR.out | ((repeat apply Exists.intro); exact ⟨HRR.out, rfl⟩)
                      case measure => simp [intOf]; omega
                · obtain rfl : n = k := by omega
                  have hfin : s17 = ((sumR zs n τ n % 4294967296 : Nat) : Int) := by
                    have h1 := sumR_root HUF.out HS6.out
                    have h2 := sumK_root (zs := zs) (us := us) HS.out HTL.out
                    rw [← HS17.out, h1, ← HB0.out, h2]
                  have HKF := Lib.hid (K14.out.trans HB.out.2.2)
                  generalize ((sumR zs n τ n % 4294967296 : Nat) : Int) = sN at *
                  subst hfin
                  go_wp2_with fail
                  go_ret
                  exact ⟨rfl, HKF.out⟩
end Go.Proofs.YticcbjgjjmmbcaaDoor.scr
