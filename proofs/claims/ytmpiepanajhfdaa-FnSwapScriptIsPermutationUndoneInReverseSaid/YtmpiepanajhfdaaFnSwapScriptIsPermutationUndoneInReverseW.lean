/-
  The walk of FnSwapScriptIsPermutationUndoneInReverse: For 1 <= n <= 65536 and any script of swaps, (charAndCountArray).Swap leaves a permutation of the tagged elements, and replaying the script backwards restores the original array.
  Conditions: none beyond those of the given statement Rows.FnSwapScriptIsPermutationUndoneInReverseSaid.
-/
import Derived.Test.YtmpiepanajhfdaaRows
import Derived.WalkKit
import Derived.ProofKit
import Derived.OpenShut
import Derived.ShutString
import Derived.ChangeOld
import Derived.Below
import Derived.Test.YtmpiepanajhfdaaSwap2
import Derived.Test.YtmpiepanajhfdaaCloneI
import Derived.Deep.RegionHeld3
import Derived.StillTailTactics
import Derived.IntWalk
namespace Go.Proofs.Ytmpiepanajhfdaa.fnSwapScriptIsPermutationUndoneInReverse
open Go.ChangeShapes Go.WideShapes Go.ChangeAt Go.RowKit
open Go.ChangeMaps (open_string shut_string)
set_option linter.unusedVariables false


/-- WHAT THE WALK IS TOLD OF A SLICE OF INTEGERS THAT CAME IN: it is nil; or it leads to a row of 'cap' cells, the numbers 'zs' (the first 'len' are its elements, the rest its spare room), each fitting its kind. -/
def IsRow (k : IntKind) (w : World) (a : Option Addr) (len cap : Nat) (zs : List Int) : Prop :=
  (a = none ∧ len = 0 ∧ cap = 0 ∧ zs = []) ∨
  ∃ x, a = some x ∧ len ≤ cap ∧ cap ≤ maxLen ∧ zs.length = cap ∧ (∀ i, i < zs.length → w.cell? (x.add i) = some (.int k (zs.getD i 0))) ∧ ∀ n ∈ zs, (Lit.int k n).wf = true

open kit swap
theorem bytes_ok (x : Int) (A : Option Addr) (n cap : Nat) (w : World) (hn : n ≤ 1048576) :
    Calls Try.prog 23 #[.int .i64 x, .slice A n cap] w fun e w' => e = .returned (.bool true) ∧ w = w' := by
  go_enter Try.func23, Try.ntmps23
  go_wp2
  go_ret
  exact ⟨rfl, rfl⟩
theorem bytes_no (x : Int) (A : Option Addr) (n cap : Nat) (w : World) (hn : 1048576 < n) :
    Calls Try.prog 23 #[.int .i64 x, .slice A n cap] w fun e w' => e = .returned (.bool false) ∧ w = w' := by
  go_enter Try.func23, Try.ntmps23
  go_wp2
  go_ret
  exact ⟨rfl, rfl⟩
theorem wfb {n : Int} (h : (Lit.int .i64 n).wf = true) : -9223372036854775808 ≤ n ∧ n ≤ 9223372036854775807 := by
  simp only [Lit.wf, Bool.and_eq_true, decide_eq_true_eq] at h
  exact h
/-- the script's copy, wherever it lies: every number of it can be read, and fits an int -/
def Script (w : World) (B : Nat) (A : Option Addr) (n : Nat) (zs : List Int) : Prop :=
  zs.length = n ∧ (0 < n → ∃ b, A = some ⟨b, 0, none⟩ ∧ b < B ∧ ∀ i, i < n → w.cell? ⟨b, i, none⟩ = some (.int .i64 (zs.getD i 0))) ∧ ∀ i, -9223372036854775808 ≤ zs.getD i 0 ∧ zs.getD i 0 ≤ 9223372036854775807
theorem Script.below {w w2 : World} {B : Nat} {A : Option Addr} {n : Nat} {zs : List Int} (h : Script w B A n zs) (hb : Below B w w2) : Script w2 B A n zs :=
  ⟨h.1, fun h0 => by
    obtain ⟨b, e, hlt, hc⟩ := h.2.1 h0
    exact ⟨b, e, hlt, fun i hi => (hb.cell (p := ⟨b, i, none⟩) hlt).trans (hc i hi)⟩, h.2.2⟩
theorem Script.of_own {w : World} {base n c : Nat} {A : Option Addr} {zs : List Int} (h : w.ownsRow base 3 1 (.slice A n c) n (zs.map (Value.int .i64))) (hz : ∀ x ∈ zs, (Lit.int .i64 x).wf = true) : Script w w.heap.size A n zs := by
  have hl : zs.length = n := by simpa using h.1
  refine ⟨hl, fun h0 => ?_, fun i => ?_⟩
  · obtain ⟨g, cap, hform, _, hlt⟩ := h.form h0
    injection hform with e1
    subst e1
    refine ⟨g, rfl, hlt, fun i hi => ?_⟩
    have hi2 : i < zs.length := by omega
    have := h.cells (g := g) rfl i (.int .i64 (zs.getD i 0)) (by simp [hi2])
    have e : (⟨g, 0, none⟩ : Addr).add i = ⟨g, i, none⟩ := by
      unfold Addr.add
      by_cases h : i = 0 <;> simp [h]
    rw [e] at this
    exact this
  · by_cases hi : i < zs.length
    · have : zs.getD i 0 ∈ zs := by simp [hi]
      exact wfb (hz _ this)
    · have : zs.getD i 0 = 0 := by simp [hi]
      rw [this]; omega

theorem info4 : (Try.prog.info? 4).map (fun i => (i.zero, i.size, i.bytes)) = some (some (.bool false), 1, 1) := by kernel_rfl
theorem mkb (k : Nat) (hk : k ≤ 65536) (W : World) : (Instr.makeSlice 60 (.int .i64 (k : Int)) (.int .i64 (k : Int))).run Try.prog W = .ok (.slice (some ⟨W.heap.size, 0, none⟩) k k) (W.alloc (.cells (Array.replicate k (Value.bool false)) 4)) := by
  obtain ⟨i, hi, hz, hs, hby⟩ := info_parts info4
  have hb : (i.bytes : Int) * (k : Int) ≤ 281474976710656 := by rw [hby]; omega
  have hr := run_make (P := Try.prog) W 60 4 i _ Try.underlying60 hi hz .i64 .i64 k k (by omega) (by omega) hb (by omega)
  simp only [Int.toNat_natCast, hs, Nat.mul_one] at hr
  have e : madeCells (Value.bool false).cells k = Array.replicate k (Value.bool false) := by
    rw [← Array.toList_inj]
    exact (toList_madeCells_one (Value.bool false) k).trans (by simp)
  rw [hr, e]
set_option maxRecDepth 100000 in
set_option maxHeartbeats 8000000 in
theorem main (n : Nat) (A : Option Addr) (m0 cap : Nat) (zs : List Int) (w : World) (h0 : 1 ≤ n) (hn : n ≤ 65536) (hm : m0 ≤ 65536) (hr : Row w A m0 cap (zs.map (Value.int .i64))) (hz : ∀ x ∈ zs, (Lit.int .i64 x).wf = true) :
    Calls Try.prog 8 #[.int .i64 (n : Int), .slice A m0 cap] w fun e w' => e = .returned (.bool true) ∧ Below w.heap.size w w' := by
  have HR := Lib.hid hr
  have HZ := Lib.hid hz
  clear hr hz
  have d1 : decide ((n : Int) < 1) = false := by simp; omega
  go_enter Try.func8, Try.ntmps8
  go_wp2_with fail
  refine (bytes_ok n A m0 cap w (by omega)).mono ?_
  rintro e w' ⟨rfl, rfl⟩
  go_wp2_with fail
  refine (cloneI.run A m0 cap zs w HR.out (by omega)).mono ?_
  rintro e w1 ⟨a1, rfl, hown1, -, hk1⟩
  have S1 := Lib.hid (Script.of_own hown1 HZ.out)
  have K1 := Lib.hid hk1
  clear hown1 hk1
  go_wp2_with fail
  refine (new25 n w1 hn).mono ?_
  rintro e w2 ⟨cs0, rfl, hcs0, hb2, hk2⟩
  have hF0 : Filled w2 w1.heap.size n 0 := ⟨cs0, hcs0, by simp [cellsOf], hb2⟩
  have HF := Lib.hid hF0
  have HB2 := Lib.hid (Below.mono hk2.below (Nat.le_refl _))
  have hg2 : w1.heap.size < w2.heap.size := hb2.lt
  clear hF0 hcs0 hb2 hk2
  generalize hg : w1.heap.size = g at *
  have HG := Lib.hid hg
  clear hg
  go_wp2_with fail
  go_loopw [6] (fun t wr => ∃ k : Nat, k ≤ n ∧ t = .int .i64 (k : Int) ∧ Filled wr g n k ∧ Below g w1 wr ∧ g < wr.heap.size) (fun t _ => n - (intOf t).toNat)
  case atStart => exact ⟨0, by omega, rfl, HF.out, HB2.out, hg2⟩
  case round =>
    obtain ⟨k, hk, rfl, hfil, hbel, hgs⟩ := hrel
    by_cases hlt : k < n
    · obtain ⟨cs, hcl, hct, hcb⟩ := hfil
      have HW := Lib.hid (set26 wr g n n cs k (k : Int) ((k : Int) % 256) hcb hcl hlt hn)
      have HCL := Lib.hid hcl
      have HCT := Lib.hid hct
      have HBL := Lib.hid hbel
      clear hcl hct hcb hbel
      go_wp2_with fail
      refine HW.out.mono ?_
      rintro e wp ⟨rfl, hb3, ho3⟩
      have hR : ∃ q : Nat, q ≤ n ∧ Value.int .i64 ((k : Int) + 1) = .int .i64 (q : Int) ∧ Filled wp g n q ∧ Below g w1 wp ∧ g < wp.heap.size := by
        refine ⟨k + 1, by omega, by go_num, filled_step HCL.out HCT.out hlt (by rw [Int.natCast_emod]; exact hb3), HBL.out.trans (ho3.below (Nat.le_refl _) (by omega)), hb3.lt⟩
      have HRR := Lib.hid hR
      clear hR hb3 ho3
      go_wp2_with fail
      go_roundw
      case rel => first | exact HRR.out | ((repeat apply Exists.intro); exact ⟨HRR.out, rfl⟩)
      case measure => simp [intOf]; omega
    · obtain rfl : k = n := by omega
      have HA0 := Lib.hid (filled_end hfil)
      have HBL := Lib.hid hbel
      clear hfil hbel HF HB2 hg2 hlt
      obtain ⟨wo, rfl⟩ : ∃ wo : World, wo = wr := ⟨_, rfl⟩
      go_wp2_with fail
      go_loopw [8] (fun t wr => ∃ q : Nat, q ≤ m0 / 2 ∧ t = .int .i64 (q : Int) ∧ Blk wr g 80 (cellsOf (fwd zs k q)) ∧ Below g w1 wr) (fun t _ => m0 / 2 - (intOf t).toNat)
      case atStart => exact ⟨0, by omega, rfl, HA0.out, HBL.out⟩
      case round =>
        obtain ⟨q, hq, rfl, hblk, hbel⟩ := hrel
        by_cases hlt : q < m0 / 2
        · obtain ⟨hzl, hsc, hzb⟩ := S1.out
          obtain ⟨b, hA, hbg, hcell⟩ := hsc (by omega)
          subst hA
          have c1 : wr.cell? ⟨b, 2 * q, none⟩ = some (.int .i64 (zs.getD (2 * q) 0)) := (hbel.cell (p := ⟨b, 2 * q, none⟩) hbg).trans (hcell _ (by omega))
          have c2 : wr.cell? ⟨b, 2 * q + 1, none⟩ = some (.int .i64 (zs.getD (2 * q + 1) 0)) := (hbel.cell (p := ⟨b, 2 * q + 1, none⟩) hbg).trans (hcell _ (by omega))
          obtain ⟨x1, x2⟩ := hzb (2 * q)
          obtain ⟨y1, y2⟩ := hzb (2 * q + 1)
          have HX := Lib.hid (pos_cast zs (n := k) (2 * q) h0)
          have HY := Lib.hid (pos_cast zs (n := k) (2 * q + 1) h0)
          have HPL := Lib.hid (fwd_perm zs h0 q).1
          have HBK := Lib.hid hblk
          have HBL2 := Lib.hid hbel
          clear hzl hsc hzb hcell hblk hbel
          generalize zs.getD (2 * q) 0 = x at *
          generalize zs.getD (2 * q + 1) 0 = y at *
          have m1 : IntKind.i64.wrap (2 * (q : Int)) = 2 * (q : Int) := IntWalk.i64_in _ (by omega)
          have m2 : IntKind.i64.wrap (2 * (q : Int) + 1) = 2 * (q : Int) + 1 := IntWalk.i64_in _ (by omega)
          have m3 : (2 * (q : Int)).toNat = 2 * q := by omega
          have m4 : (2 * (q : Int) + 1).toNat = 2 * q + 1 := by omega
          have m5 : (0 : Int) ≤ 2 * (q : Int) := by omega
          have m6 : (0 : Int) ≤ 2 * (q : Int) + 1 := by omega
          have m7 : 2 * (q : Int) < (m0 : Int) := by omega
          have m8 : 2 * (q : Int) + 1 < (m0 : Int) := by omega
          have MX := Lib.hid (fun W : World => (mod28 x k W h0 hn x1 x2).mono (fun e w' (h : e = .returned (.int .i64 (x % (k : Int))) ∧ W = w') => (show e = .returned (.int .i64 (x % (k : Int))) ∧ w' = W from ⟨h.1, h.2.symm⟩)))
          have MY := Lib.hid (fun W : World => (mod28 y k W h0 hn y1 y2).mono (fun e w' (h : e = .returned (.int .i64 (y % (k : Int))) ∧ W = w') => (show e = .returned (.int .i64 (y % (k : Int))) ∧ w' = W from ⟨h.1, h.2.symm⟩)))
          go_wp2_with fail
          go_still_tail 16, (by kernel_rfl)
          still_call (MX.out _)
          repeat still_step
          still_call (MY.out _)
          repeat still_step
          refine wpStill_nil ?_
          rw [HX.out, HY.out]
          change wpList _ _ _ _ _ wr.drew
          generalize hwd : wr.drew = wd at *
          have HBD := Lib.hid (show Blk wd g 80 (cellsOf (fwd zs k q)) from hwd ▸ HBK.out.drew)
          have HLD := Lib.hid (show Below g w1 wd from hwd ▸ HBL2.out.drew)
          clear hwd m1 m2 m3 m4 c1 c2
          go_wp2_with fail
          refine (swap27 wd g k k (fwd zs k q) _ _ HBD.out HPL.out (pos_lt _ _ h0) (pos_lt _ _ h0) hn).mono ?_
          rintro e w' ⟨rfl, hb4, ho4⟩
          have hR : ∃ r : Nat, r ≤ m0 / 2 ∧ Value.int .i64 ((q : Int) + 1) = .int .i64 (r : Int) ∧ Blk w' g 80 (cellsOf (fwd zs k r)) ∧ Below g w1 w' :=
            ⟨q + 1, by omega, by go_num, hb4, HLD.out.trans (ho4.below (Nat.le_refl _) (by have := HBD.out.lt; omega))⟩
          have HRR := Lib.hid hR
          clear hR hb4 ho4
          go_wp2_with fail
          go_roundw
          case rel => first | exact HRR.out | ((repeat apply Exists.intro); exact ⟨HRR.out, rfl⟩)
          case measure => simp [intOf]; omega
        · obtain rfl : q = m0 / 2 := by omega
          have HBK := Lib.hid hblk
          have HBL2 := Lib.hid hbel
          have HPM := Lib.hid (fwd_perm zs h0 (m0 / 2))
          have hgw : g < wr.heap.size := hblk.lt
          clear hblk hbel hlt HA0 HBL hq
          have hmk : ∀ W : World, (Instr.makeSlice 60 (.int .i64 (k : Int)) (.int .i64 (k : Int))).run Try.prog W = .ok (.slice (some ⟨W.heap.size, 0, none⟩) k k) (W.alloc (.cells (Array.replicate k (Value.bool false)) 4)) := mkb k hn
          obtain ⟨w3, hw3⟩ : ∃ w3 : World, w3 = wr := ⟨_, rfl⟩
          subst hw3
          go_wp2_with fail
          generalize hsb : w3.heap.size = sb at *
          have HS0 := Lib.hid (show Blk (w3.alloc (.cells (Array.replicate k (Value.bool false)) 4)) sb 4 (swap.seen (fwd zs k (m0 / 2)) 0 k) from by rw [seen_zero, ← hsb]; have := Blk.new w3 4 (List.replicate k (Value.bool false)); rwa [List.toArray_replicate] at this)
          have HB0 := Lib.hid (HBK.out.alloc (.cells (Array.replicate k (Value.bool false)) 4))
          have HL0 := Lib.hid (HBL2.out.alloc (by omega) (.cells (Array.replicate k (Value.bool false)) 4))
          have HSB := Lib.hid hsb
          clear hsb hmk
          generalize hw4 : w3.alloc (.cells (Array.replicate k (Value.bool false)) 4) = w4 at *
          clear hw4
          go_loopw [10, 11] (fun t _ wr => ∃ q : Nat, q ≤ k ∧ t = .int .i64 (q : Int) ∧ Blk wr sb 4 (swap.seen (fwd zs k (m0 / 2)) q k) ∧ Blk wr g 80 (cellsOf (fwd zs k (m0 / 2))) ∧ Below g w1 wr) (fun t _ _ => k - (intOf t).toNat)
          case atStart => exact ⟨0, by omega, rfl, HS0.out, HB0.out, HL0.out⟩
          case round =>
            obtain ⟨q, hq, rfl, hsn, hblk, hbel⟩ := hrel
            by_cases hlt : q < k
            · have hc0 : wr.cell? ⟨sb, (fwd zs k (m0 / 2)).getD q 0, none⟩ = some (.bool false) := by rw [hsn.cell]; exact seen_at HPM.out hlt
              have hf0 := hsn.free ((fwd zs k (m0 / 2)).getD q 0)
              have hcl := HPM.out.2.1 q hlt
              have HPL := Lib.hid HPM.out.1
              have HS1 := Lib.hid (show Blk (wr.setCell ⟨sb, (fwd zs k (m0 / 2)).getD q 0, none⟩ (.bool true)) sb 4 (swap.seen (fwd zs k (m0 / 2)) (q + 1) k) from by rw [← seen_set HPM.out hlt]; exact hsn.set _ _)
              have HB1 := Lib.hid (hblk.far (p := ⟨sb, (fwd zs k (m0 / 2)).getD q 0, none⟩) (by show g ≠ sb; omega) (.bool true))
              have HL1 := Lib.hid (hbel.setCell (p := ⟨sb, (fwd zs k (m0 / 2)).getD q 0, none⟩) (by show g ≤ sb; omega) (.bool true))
              have HC := Lib.hid (count29 wr g k k (fwd zs k (m0 / 2)) q hblk HPL.out hlt hn)
              have HI := Lib.hid (index30 _ g k k (fwd zs k (m0 / 2)) q HB1.out HPL.out hlt hn)
              clear hsn hblk hbel
              generalize hcc : (fwd zs k (m0 / 2)).getD q 0 = c at *
              clear hcc
              have j1 : ((c % 256 : Nat) : Int) = (c : Int) % 256 := by omega
              rw [j1] at HI
              clear j1
              have HRR : Hid (∃ r : Nat, r ≤ k ∧ Value.int .i64 ((q : Int) + 1) = .int .i64 (r : Int) ∧ Blk (wr.setCell ⟨sb, c, none⟩ (.bool true)) sb 4 (swap.seen (fwd zs k (m0 / 2)) r k) ∧ Blk (wr.setCell ⟨sb, c, none⟩ (.bool true)) g 80 (cellsOf (fwd zs k (m0 / 2))) ∧ Below g w1 (wr.setCell ⟨sb, c, none⟩ (.bool true))) :=
                Lib.hid ⟨q + 1, by omega, by go_num, HS1.out, HB1.out, HL1.out⟩
              go_wp2_with fail
              refine HC.out.mono ?_
              rintro e w' ⟨rfl, rfl⟩
              go_wp2_with fail
              refine HI.out.mono ?_
              rintro e w' ⟨rfl, rfl⟩
              go_wp2_with fail
              go_roundw
              case rel => first | exact HRR.out | ((repeat apply Exists.intro); exact ⟨HRR.out, rfl⟩)
              case measure => simp [intOf]; omega
            · obtain rfl : k = q := by omega
              have HBK := Lib.hid hblk
              have HBL2 := Lib.hid hbel
              clear hblk hbel hsn hlt HS0 HB0 HL0
              obtain ⟨w5, hw5⟩ : ∃ w5 : World, w5 = wr := ⟨_, rfl⟩
              subst hw5
              go_wp2_with fail
              go_loopw [12] (fun t wr => ∃ q : Nat, q ≤ m0 / 2 ∧ t = .int .i64 ((q : Int) - 1) ∧ Blk wr g 80 (cellsOf (fwd zs k q)) ∧ Below g w1 wr) (fun t _ => (intOf t + 1).toNat)
              case atStart => exact ⟨m0 / 2, by omega, by go_num, HBK.out, HBL2.out⟩
              case round =>
                obtain ⟨q, hq, rfl, hblk, hbel⟩ := hrel
                clear HBK HBL2
                rcases q with _ | q
                · have HBK := Lib.hid hblk
                  have HBL2 := Lib.hid hbel
                  clear hblk hbel
                  have hr0 : (((0 : Nat) : Int) - 1) = -1 := rfl
                  rw [hr0]
                  clear hr0
                  obtain ⟨w6, hw6⟩ : ∃ w6 : World, w6 = wr := ⟨_, rfl⟩
                  subst hw6
                  go_wp2_with fail
                  go_loop [13] (fun t => ∃ q : Nat, q ≤ k ∧ t = .int .i64 (q : Int)) (fun t => k - (intOf t).toNat)
                  case atStart => exact ⟨0, by omega, rfl⟩
                  case round =>
                    obtain ⟨q, hq, rfl⟩ := hrel
                    by_cases hlt : q < k
                    · have HC := count29 w6 g k k (fwd zs k 0) q HBK.out (fwd_perm zs h0 0).1 hlt hn
                      have HI := index30 w6 g k k (fwd zs k 0) q HBK.out (fwd_perm zs h0 0).1 hlt hn
                      have e0 : (fwd zs k 0).getD q 0 = q := by simp [fwd, hlt]
                      have j1 : ((q % 256 : Nat) : Int) = (q : Int) % 256 := by omega
                      rw [e0] at HC HI
                      rw [j1] at HI
                      clear e0 j1
                      have HRR : Hid (∃ r : Nat, r ≤ k ∧ Value.int .i64 ((q : Int) + 1) = .int .i64 (r : Int)) := Lib.hid ⟨q + 1, by omega, by go_num⟩
                      have HC1 := Lib.hid HC
                      have HI1 := Lib.hid HI
                      clear HC HI
                      go_wp2_with fail
                      refine HC1.out.mono ?_
                      rintro e w' ⟨rfl, rfl⟩
                      go_wp2_with fail
                      refine HI1.out.mono ?_
                      rintro e w' ⟨rfl, rfl⟩
                      go_wp2_with fail
                      go_round
                      case rel => first | exact HRR.out | ((repeat apply Exists.intro); exact ⟨HRR.out, rfl⟩) | (refine ⟨trivial, ?_⟩; (repeat apply Exists.intro); exact ⟨HRR.out, rfl⟩)
                      case measure => simp [intOf]; omega
                    · go_wp2_with fail
                      go_ret
                      exact ⟨rfl, Below.trans K1.out (Below.mono HBL2.out (by have := K1.out.size; have := HG.out; omega))⟩
                · obtain ⟨hzl, hsc, hzb⟩ := S1.out
                  obtain ⟨b, hA, hbg, hcell⟩ := hsc (by omega)
                  subst hA
                  have c1 : wr.cell? ⟨b, 2 * q, none⟩ = some (.int .i64 (zs.getD (2 * q) 0)) := (hbel.cell (p := ⟨b, 2 * q, none⟩) hbg).trans (hcell _ (by omega))
                  have c2 : wr.cell? ⟨b, 2 * q + 1, none⟩ = some (.int .i64 (zs.getD (2 * q + 1) 0)) := (hbel.cell (p := ⟨b, 2 * q + 1, none⟩) hbg).trans (hcell _ (by omega))
                  obtain ⟨x1, x2⟩ := hzb (2 * q)
                  obtain ⟨y1, y2⟩ := hzb (2 * q + 1)
                  have HX := Lib.hid (pos_cast zs (n := k) (2 * q) h0)
                  have HY := Lib.hid (pos_cast zs (n := k) (2 * q + 1) h0)
                  have HPL := Lib.hid (fwd_perm zs h0 (q + 1)).1
                  have HBK := Lib.hid hblk
                  have HBL2 := Lib.hid hbel
                  clear hzl hsc hzb hcell hblk hbel
                  generalize zs.getD (2 * q) 0 = x at *
                  generalize zs.getD (2 * q + 1) 0 = y at *
                  have hq1 : (((q + 1 : Nat) : Int) - 1) = (q : Int) := by omega
                  rw [hq1]
                  clear hq1
                  have m1 : IntKind.i64.wrap (2 * (q : Int)) = 2 * (q : Int) := IntWalk.i64_in _ (by omega)
                  have m2 : IntKind.i64.wrap (2 * (q : Int) + 1) = 2 * (q : Int) + 1 := IntWalk.i64_in _ (by omega)
                  have m3 : (2 * (q : Int)).toNat = 2 * q := by omega
                  have m4 : (2 * (q : Int) + 1).toNat = 2 * q + 1 := by omega
                  have m5 : (0 : Int) ≤ 2 * (q : Int) := by omega
                  have m6 : (0 : Int) ≤ 2 * (q : Int) + 1 := by omega
                  have m7 : 2 * (q : Int) < (m0 : Int) := by omega
                  have m8 : 2 * (q : Int) + 1 < (m0 : Int) := by omega
                  have MX := Lib.hid (fun W : World => (mod28 x k W h0 hn x1 x2).mono (fun e w' (h : e = .returned (.int .i64 (x % (k : Int))) ∧ W = w') => (show e = .returned (.int .i64 (x % (k : Int))) ∧ w' = W from ⟨h.1, h.2.symm⟩)))
                  have MY := Lib.hid (fun W : World => (mod28 y k W h0 hn y1 y2).mono (fun e w' (h : e = .returned (.int .i64 (y % (k : Int))) ∧ W = w') => (show e = .returned (.int .i64 (y % (k : Int))) ∧ w' = W from ⟨h.1, h.2.symm⟩)))
                  go_wp2_with fail
                  go_still_tail 16, (by kernel_rfl)
                  still_call (MX.out _)
                  repeat still_step
                  still_call (MY.out _)
                  repeat still_step
                  refine wpStill_nil ?_
                  rw [HX.out, HY.out]
                  change wpList _ _ _ _ _ wr.drew
                  generalize hwd : wr.drew = wd at *
                  have HBD := Lib.hid (show Blk wd g 80 (cellsOf (fwd zs k (q + 1))) from hwd ▸ HBK.out.drew)
                  have HLD := Lib.hid (show Below g w1 wd from hwd ▸ HBL2.out.drew)
                  clear hwd m1 m2 m3 m4 c1 c2
                  go_wp2_with fail
                  refine (swap27 wd g k k (fwd zs k (q + 1)) _ _ HBD.out HPL.out (pos_lt _ _ h0) (pos_lt _ _ h0) hn).mono ?_
                  rintro e w' ⟨rfl, hb4, ho4⟩
                  have hR : ∃ r : Nat, r ≤ m0 / 2 ∧ Value.int .i64 ((q : Int) - 1) = .int .i64 ((r : Int) - 1) ∧ Blk w' g 80 (cellsOf (fwd zs k r)) ∧ Below g w1 w' :=
                    ⟨q, by omega, rfl, (fwd_back zs h0 q) ▸ hb4, HLD.out.trans (ho4.below (Nat.le_refl _) (by have := HBD.out.lt; omega))⟩
                  have HRR := Lib.hid hR
                  clear hR hb4 ho4
                  go_wp2_with fail
                  go_roundw
                  case rel => first | exact HRR.out | ((repeat apply Exists.intro); exact ⟨HRR.out, rfl⟩)
                  case measure => first | (simp [intOf]; omega) | simp [intOf]

set_option maxHeartbeats 2000000 in
theorem walk (a0 : Int) (a1 : Option Addr) (len1 cap1 : Nat) (z1 : List Int) (w : World) (w0 : (Lit.int .i64 a0).wf = true) (w1 : IsRow .i64 w a1 len1 cap1 z1) :
    Calls Try.prog 8 #[.int .i64 a0, .slice a1 len1 cap1] w fun e w' => e = .returned (.bool true) ∧ Below w.heap.size w w' := by
  have hm : len1 ≤ cap1 ∧ cap1 ≤ maxLen := by
    rcases w1 with ⟨rfl, rfl, rfl, rfl⟩ | ⟨x, rfl, hl, hm, hz, hc, hw⟩
    · exact ⟨Nat.le_refl _, Nat.zero_le _⟩
    · exact ⟨hl, hm⟩
  obtain ⟨hm1, hm2⟩ := hm
  unfold maxLen at hm2
  have HR : Hid (Row w a1 len1 cap1 ((z1.take len1).map (Value.int .i64))) := by
    rcases w1 with ⟨rfl, rfl, rfl, rfl⟩ | ⟨x, rfl, hl, hm, hz, hc, hw⟩
    · exact Lib.hid (Row.nil w)
    · exact Lib.hid (Row.of_cells hl hm hz hc)
  have HZ : Hid (∀ x ∈ z1.take len1, (Lit.int .i64 x).wf = true) := by
    rcases w1 with ⟨rfl, rfl, rfl, rfl⟩ | ⟨x, rfl, hl, hm, hz, hc, hw⟩
    · exact Lib.hid (by simp)
    · exact Lib.hid (fun y hy => hw y (List.mem_of_mem_take hy))
  clear w1
  obtain ⟨b1, b2⟩ := wfb w0
  clear w0
  by_cases c0 : 1048576 < len1
  · go_enter Try.func8, Try.ntmps8
    go_wp2_with fail
    refine (bytes_no a0 a1 len1 cap1 w c0).mono ?_
    rintro e w' ⟨rfl, rfl⟩
    go_wp2
    go_ret
    exact ⟨rfl, Below.refl _ _⟩
  by_cases c1 : 65536 < len1
  · go_enter Try.func8, Try.ntmps8
    go_wp2_with fail
    refine (bytes_ok a0 a1 len1 cap1 w (by omega)).mono ?_
    rintro e w' ⟨rfl, rfl⟩
    go_wp2
    go_ret
    exact ⟨rfl, Below.refl _ _⟩
  by_cases c2 : a0 < 1
  · go_enter Try.func8, Try.ntmps8
    go_wp2_with fail
    refine (bytes_ok a0 a1 len1 cap1 w (by omega)).mono ?_
    rintro e w' ⟨rfl, rfl⟩
    go_wp2
    go_ret
    exact ⟨rfl, Below.refl _ _⟩
  by_cases c3 : 65536 < a0
  · go_enter Try.func8, Try.ntmps8
    go_wp2_with fail
    refine (bytes_ok a0 a1 len1 cap1 w (by omega)).mono ?_
    rintro e w' ⟨rfl, rfl⟩
    go_wp2
    go_ret
    exact ⟨rfl, Below.refl _ _⟩
  obtain ⟨n, rfl⟩ := Int.eq_ofNat_of_zero_le (show 0 ≤ a0 by omega)
  exact main n a1 len1 cap1 _ w (by omega) (by omega) (by omega) HR.out HZ.out
end Go.Proofs.Ytmpiepanajhfdaa.fnSwapScriptIsPermutationUndoneInReverse
