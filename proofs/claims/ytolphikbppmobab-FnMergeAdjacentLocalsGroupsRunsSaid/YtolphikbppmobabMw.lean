/-
  The walk of FnMergeAdjacentLocalsGroupsRuns over this seat's program, past its guards.
  Conditions: three slices of one length, at most 65536; the numbers' sum is at most 65536.
-/
import Derived.Test.YtolphikbppmobabMq
import Derived.Test.YtolphikbppmobabMb2
import Derived.Test.YtolphikbppmobabClone80
import Derived.Test.YtolphikbppmobabCloneBo
namespace Go.Proofs.Ytolphikbppmobab.mj
open Go.ChangeShapes Go.WideShapes Go.ChangeAt Go.RowKit
open kit

/-- the outer loop's state -/
def Ob (ks : List Nat) (xs : List Bool) (ds : List Nat) (n : Nat) (w5 : World) (t10 t11 t12 : Value) (W : World) : Prop :=
  ∃ i : Nat, i ≤ n ∧ t12 = .int .i64 (i : Int) ∧ t10 = .int .i64 (cnt ks xs i : Int) ∧ t11 = .int .u32 (fst ks ds i : Int) ∧ (i < n → brk ks xs i = true) ∧ Kept w5 W
theorem conv (ks : List Nat) : (ks.map fun (d : Nat) => Value.int .u8 (d : Int)) = (ks.map fun (d : Nat) => (d : Int)).map (Value.int .u8) := by simp
theorem row_below {w w2 : World} {a : Option Addr} {n c R : Nat} {ys : List Value} (h : Row w a n c ys) (hb : Below R w w2) (hR : w.heap.size ≤ R ∨ ∀ b, a.map (·.block) = some b → b < R) : Row w2 a n c ys := by
  refine h.far hb.size fun b hlt hb2 => hb.block b ?_
  rcases hR with h1 | h1
  · omega
  · exact h1 b hb2

theorem atN {w : World} {b o n c : Nat} {ks : List Nat} (h : Row w (some ⟨b, o, none⟩) n c (ks.map fun (d : Nat) => Value.int .u8 (d : Int))) {j : Nat} (hj : j < n) : w.cell? ⟨b, o + j, none⟩ = some (.int .u8 (ks.getD j 0 : Int)) := by
  have hl : ks.length = n := by simpa using h.1
  obtain ⟨b2, o2, e, _, hc⟩ := h.2.2.2.2 (by omega)
  injection e with e1
  injection e1 with e2 e3
  subst e2 e3
  have := hc j (by simp; omega)
  rw [List.getElem_map] at this
  rw [this, getN (by omega)]
theorem atB {w : World} {b o n c : Nat} {xs : List Bool} (h : Row w (some ⟨b, o, none⟩) n c (xs.map Value.bool)) {j : Nat} (hj : j < n) : w.cell? ⟨b, o + j, none⟩ = some (.bool (xs.getD j false)) := by
  have hl : xs.length = n := by simpa using h.1
  obtain ⟨b2, o2, e, _, hc⟩ := h.2.2.2.2 (by omega)
  injection e with e1
  injection e1 with e2 e3
  subst e2 e3
  have := hc j (by simp; omega)
  rw [List.getElem_map] at this
  rw [this, getB (by omega)]
theorem byteN {ks : List Nat} (h : ∀ d ∈ ks, d ≤ 255) (j : Nat) : ks.getD j 0 ≤ 255 := by
  by_cases hj : j < ks.length
  · rw [getN hj]; exact h _ (List.getElem_mem hj)
  · rw [List.getD_eq_getElem?_getD, List.getElem?_eq_none (by omega)]; exact Nat.zero_le _

set_option maxRecDepth 100000 in
set_option maxHeartbeats 8000000 in
theorem main (a0 a1 a2 : Option Addr) (n c0 c1 c2 : Nat) (ks : List Nat) (xs : List Bool) (ds : List Nat) (w : World)
    (h0 : Row w a0 n c0 (ks.map fun (d : Nat) => Value.int .u8 (d : Int))) (h1 : Row w a1 n c1 (xs.map Value.bool)) (h2 : Row w a2 n c2 (ds.map fun (d : Nat) => Value.int .u8 (d : Int)))
    (hk : ∀ d ∈ ks, d ≤ 255) (hd : ∀ d ∈ ds, d ≤ 255) (hn : n ≤ 65536) (hs : ds.sum ≤ 65536) :
    Calls Try.prog 3 #[.slice a0 n c0, .slice a1 n c1, .slice a2 n c2] w fun e w' => e = .returned (.bool true) ∧ Below w.heap.size w w' := by
  have HBT := Lib.hid (bytesT a0 a1 a2 n c0 n c1 n c2 (by omega) w)
  have hgb : gB n n ds = true := by unfold gB; rw [decide_eq_true_eq]; exact ⟨hn, rfl, by simpa using h2.1, hs⟩
  have HGD := Lib.hid (guards a0 a1 a2 n c0 n c1 n c2 ds w h2 hd (by omega))
  rw [hgb] at HGD
  have hf : fst ks ds n ≤ 65536 := by
    have := fst_le ks ds n
    have hl : ds.length = n := by simpa using h2.1
    rw [List.take_of_length_le (by omega)] at this
    omega
  have hlk : ks.length = n := by simpa using h0.1
  have hlx : xs.length = n := by simpa using h1.1
  have hld : ds.length = n := by simpa using h2.1
  have H0 := Lib.hid h0
  have H1 := Lib.hid h1
  have H2 := Lib.hid h2
  have HK := Lib.hid hk
  have HD := Lib.hid hd
  have HS := Lib.hid hs
  have HF := Lib.hid hf
  have HLK := Lib.hid hlk
  have HLX := Lib.hid hlx
  have HLD := Lib.hid hld
  clear h0 h1 h2 hk hd hs hf hgb hlk hlx hld
  go_enter Try.func3, Try.ntmps3
  go_wp2_with fail
  refine HBT.out.mono ?_
  rintro e w' ⟨rfl, rfl⟩
  go_wp2_with fail
  refine HGD.out.mono ?_
  rintro e w' ⟨rfl, rfl⟩
  go_wp2_with fail
  refine (clone80.run a0 n c0 (ks.map fun (d : Nat) => (d : Int)) w (by rw [← conv]; exact H0.out) (by omega)).mono ?_
  rintro e w1 ⟨p0, rfl, o0, _, k1⟩
  rw [← conv] at o0
  have O0 := Lib.hid (Row.of_own o0)
  have K1 := Lib.hid k1
  clear o0 k1
  go_wp2_with fail
  refine (cloneBo.run a1 n c1 xs w1 (H1.out.kept K1.out) (by omega)).mono ?_
  rintro e w2 ⟨p1, rfl, o1, _, k2⟩
  have O0 := Lib.hid (O0.out.kept k2)
  have O1 := Lib.hid (Row.of_own o1)
  have K2 := Lib.hid (K1.out.trans k2)
  clear o1 k2 K1
  go_wp2_with fail
  refine (clone80.run a2 n c2 (ds.map fun (d : Nat) => (d : Int)) w2 (by rw [← conv]; exact H2.out.kept K2.out) (by omega)).mono ?_
  rintro e w3 ⟨p2, rfl, o2, _, k3⟩
  rw [← conv] at o2
  have O0 := Lib.hid (O0.out.kept k3)
  have O1 := Lib.hid (O1.out.kept k3)
  have O2 := Lib.hid (Row.of_own o2)
  have K3 := Lib.hid (K2.out.trans k3)
  clear o2 k3 K2
  go_wp2_with fail
  refine (build p0 p1 p2 n n n n ks xs ds w3 O0.out O1.out O2.out HK.out HD.out hn HS.out).mono ?_
  rintro e w4 ⟨rfl, st, k4⟩
  have ST := Lib.hid st
  have K4 := Lib.hid k4
  clear st k4
  go_wp2_with fail
  refine (merge9 ks xs ds w4 w3.heap.size n HF.out hn ST.out).mono ?_
  rintro e w5 ⟨rfl, hb, rc, B, hrc, hall⟩
  have HB := Lib.hid hb
  have HRC := Lib.hid hrc
  have HALL := Lib.hid hall
  clear hb hrc hall
  have e35 : Below w3.heap.size w3 w5 := (K4.out.below).trans HB.out
  have O0 := Lib.hid (row_below O0.out e35 (.inl (Nat.le_refl _)))
  have O1 := Lib.hid (row_below O1.out e35 (.inl (Nat.le_refl _)))
  have O2 := Lib.hid (row_below O2.out e35 (.inl (Nat.le_refl _)))
  have K5 := Lib.hid (Kept.trans K3.out e35)
  clear e35 HB K3 K4 ST HBT HGD H0 H1 H2
  generalize w3.heap.size = R at *
  have HI : Hid (Ob ks xs ds n w5 (.int .i64 0) (.int .u32 0) (.int .i64 0) w5) := Lib.hid ⟨0, Nat.zero_le _, rfl, rfl, rfl, fun _ => rfl, Kept.refl _⟩
  generalize hcn : cnt ks xs n = cn at *
  have HCN := Lib.hid hcn
  have hcl : cn ≤ n := by rw [← hcn]; exact cnt_le n
  clear hcn
  go_wp2_with fail
  go_loopw [10, 11, 12] (fun t10 t11 t12 W => Ob ks xs ds n w5 t10 t11 t12 W) (fun _ _ t12 _ => n - (intOf t12).toNat)
  case atStart => exact HI.out
  case round =>
    obtain ⟨i, hi, rfl, rfl, rfl, hbr, hkw⟩ := hrel
    clear HI
    have HKW := Lib.hid hkw
    have HBR := Lib.hid hbr
    clear hkw hbr
    by_cases hin : i < n
    · obtain ⟨wo, rfl⟩ : ∃ wo : World, wo = wr := ⟨_, rfl⟩
      obtain ⟨kb, ko, rfl, _, _⟩ := O0.out.2.2.2.2 (by omega)
      obtain ⟨xb, xo, rfl, _, _⟩ := O1.out.2.2.2.2 (by omega)
      obtain ⟨db, dO, rfl, _, _⟩ := O2.out.2.2.2.2 (by omega)
      have CK := Lib.hid fun (j : Nat) (W : World) (hj : j < n) (hk : Kept w5 W) => hk.cell (atN O0.out hj)
      have CX := Lib.hid fun (j : Nat) (W : World) (hj : j < n) (hk : Kept w5 W) => hk.cell (atB O1.out hj)
      have CD := Lib.hid fun (j : Nat) (W : World) (hj : j < n) (hk : Kept w5 W) => hk.cell (atN O2.out hj)
      have BK := Lib.hid fun (j : Nat) => byteN HK.out j
      have BD := Lib.hid fun (j : Nat) => byteN HD.out j
      clear O0 O1 O2
      have e0 := CK.out i _ hin HKW.out
      have k255 := BK.out i
      generalize hk8 : ks.getD i 0 = K at *
      have HK8 := Lib.hid hk8
      clear hk8
      go_upto_if 57 with (fail)
      go_cut [13] (fun t13 W => Hid (∃ j : Nat, t13 = .int .i64 (j : Int) ∧ Seg ks xs i j ∧ j ≤ n ∧ (j = n ∨ brk ks xs j = true) ∧ Kept w5 W))
      case first =>
        --F{
        by_cases h8 : K < 8
        · have HG8 := Lib.hid h8
          have hd8 : decide ((K : Int) < 8) = true := decide_eq_true (by omega)
          go_wp2_with fail
          go_loopw [13] (fun t13 W => Hid (∃ j : Nat, t13 = .int .i64 (j : Int) ∧ Seg ks xs i j ∧ j ≤ n ∧ Kept w5 W)) (fun t13 _ => n - (intOf t13).toNat)
          case atStart => exact Lib.hid ⟨i + 1, by go_num, Seg.one (HBR.out hin), by omega, HKW.out⟩
          case round =>
            obtain ⟨j, rfl, hS, hj, hkw⟩ := hrel.out
            have HSG := Lib.hid hS
            have HKJ := Lib.hid hkw
            have hij := hS.1
            clear hS hkw hrel e0
            by_cases hjn : j < n
            · have e1 := CK.out j _ hjn HKJ.out
              have e2 := CK.out i _ hin HKJ.out
              have e3 := CX.out j _ hjn HKJ.out
              have e4 := CX.out i _ hin HKJ.out
              rw [HK8.out] at e2
              by_cases hkk : ks.getD j 0 = K
              · by_cases hxx : xs.getD j false = xs.getD i false
                · have hnb := (brk_iff HSG.out).2 ⟨by omega, by rw [HK8.out, hkk], hxx.symm⟩
                  have HSN := Lib.hid (HSG.out.snoc hnb)
                  rw [hkk] at e1
                  rw [hxx] at e3
                  generalize xs.getD i false = X at *
                  clear hkk hxx hnb
                  go_wp2_with fail
                  go_quiet (fail)
                  go_wp2_with fail
                  go_roundw
                  case rel => exact Lib.hid ⟨j + 1, by go_num, HSN.out, by omega, HKJ.out.drewN _⟩
                  case measure => simp [intOf]; omega
                · have hbj : brk ks xs j = true := by
                    cases hb : brk ks xs j
                    · exact absurd ((brk_iff HSG.out).1 hb).2.2.symm hxx
                    · rfl
                  have HBJ := Lib.hid hbj
                  have hxd : decide (xs.getD j false = xs.getD i false) = false := decide_eq_false hxx
                  have hxe : (xs.getD j false == xs.getD i false) = false := by rw [beq_eq_false_iff_ne]; exact hxx
                  rw [hkk] at e1
                  generalize xs.getD i false = X at *
                  generalize xs.getD j false = X2 at *
                  clear hkk hxx hbj
                  go_wp2_with fail
                  go_quiet (fail)
                  go_wp2_with fail
                  go_meet
                  exact Lib.hid ⟨j, rfl, HSG.out, hj, .inr HBJ.out, HKJ.out.drewN _⟩
              · have hbj : brk ks xs j = true := by
                  cases hb : brk ks xs j
                  · have := ((brk_iff HSG.out).1 hb).2.1.symm
                    rw [HK8.out] at this
                    exact absurd this hkk
                  · rfl
                have HBJ := Lib.hid hbj
                have hkd : decide ((ks.getD j 0 : Int) = (K : Int)) = false := decide_eq_false (by omega)
                have hke : ((ks.getD j 0 : Int) == (K : Int)) = false := by rw [beq_eq_false_iff_ne]; omega
                generalize ks.getD j 0 = K2 at *
                clear hkk hbj
                go_wp2_with fail
                go_quiet (fail)
                go_wp2_with fail
                go_meet
                exact Lib.hid ⟨j, rfl, HSG.out, hj, .inr HBJ.out, HKJ.out.drewN _⟩
            · obtain rfl : j = n := by omega
              have hjd : decide ((j : Int) < (j : Int)) = false := decide_eq_false (by omega)
              go_wp2_with fail
              go_quiet (fail)
              go_wp2_with fail
              go_meet
              exact Lib.hid ⟨j, rfl, HSG.out, hj, .inl rfl, HKJ.out.drewN _⟩
        · have HG8 := Lib.hid h8
          have hd8 : decide ((K : Int) < 8) = false := decide_eq_false (by omega)
          go_wp2_with fail
          go_meet
          refine Lib.hid ⟨i + 1, by go_num, Seg.one (HBR.out hin), by omega, .inr ?_, HKW.out⟩
          cases hb : brk ks xs (i + 1)
          · have := (brk_iff (Seg.one (HBR.out hin))).1 hb
            have h8 := HG8.out
            rw [← HK8.out] at h8
            omega
          · rfl
        --F}
      case rest =>
        obtain ⟨j, rfl, hS, hj, hb, hkw⟩ := hcut.out
        have HSG := Lib.hid hS
        have HBJ := Lib.hid hb
        have HKJ := Lib.hid hkw
        have hij := hS.1
        clear hS hb hkw hcut e0
        obtain ⟨v, v1, v2, v3⟩ := HALL.out i j HSG.out hj HBJ.out
        have hrw := HRC.out.kept HKJ.out
        have r0 := hrw.cell (cnt ks xs i * 2)
        have r1 := hrw.cell (cnt ks xs i * 2 + 1)
        rw [v1] at r0
        rw [v2] at r1
        have HR0 := Lib.hid fun (W : World) (hk : Kept w5 W) => ((HRC.out.kept hk).cell (cnt ks xs i * 2)).trans v1
        have HR1 := Lib.hid fun (W : World) (hk : Kept w5 W) => ((HRC.out.kept hk).cell (cnt ks xs i * 2 + 1)).trans v2
        have hcj : cnt ks xs j = cnt ks xs i + 1 := HSG.out.cnt
        have hcm : cnt ks xs j ≤ cn := by rw [← HCN.out]; exact cnt_mono hj
        have hgc : cnt ks xs i < cn := by omega
        have HCJ := Lib.hid hcj
        have V3 := Lib.hid v3
        have hff := fst_mono (ks := ks) (ds := ds) (Nat.le_of_lt hij)
        have hfn := fst_mono (ks := ks) (ds := ds) hj
        have hfb : fst ks ds j ≤ 65536 := by have := HF.out; omega
        have hfi : fst ks ds i ≤ 65536 := by omega
        have HNX : Hid (j < n → brk ks xs j = true) := Lib.hid fun h => by
          rcases HBJ.out with h2 | h2
          · omega
          · exact h2
        have e1 := CK.out i _ hin HKJ.out
        have e2 := CX.out i _ hin HKJ.out
        rw [HK8.out] at e1
        have W1 : IntKind.i32.wrap (i : Int) = i := IntWalk.i32_in _ (by omega)
        have HW1 := Lib.hid W1
        clear hcj hcm v1 v2 v3 hrw W1
        generalize cnt ks xs i = g at *
        by_cases h8 : K < 8
        · obtain ⟨g', a, c, rfl, b1, b2⟩ := V3.out.loc (by rw [HK8.out]; exact h8)
          have hnl := nums_length (ks := ks) (ds := ds) i j
          have b3 : ∀ d, d < (nums ks ds i j).length → ∃ b r, a = some ⟨b, 0, none⟩ ∧ w5.cell? ⟨b, 0 + d * 4, none⟩ = some (PB r) ∧ Blk w5 r 65 [.int .u32 ((0 : Nat) : Int), .int .u32 ((fst ks ds i + d : Nat) : Int)] := fun d hd => by
            obtain ⟨b, r, q1, q2, q3⟩ := b2 d hd
            rw [nums_get] at q3
            exact ⟨b, r, q1, q2, q3⟩
          clear b2
          rw [HK8.out] at b1
          generalize (nums ks ds i j).length = S at *
          have hfS : fst ks ds i + S = fst ks ds j := by omega
          have hSb : S ≤ 65536 := by omega
          have HFS := Lib.hid hfS
          have HST : Hid (∀ k, i ≤ k → k < j → fst ks ds (k + 1) = fst ks ds k + ds.getD k 0) := Lib.hid fun k q1 q2 => fst_succ k (by rw [(HSG.out.same k q1 q2).1, HK8.out]; exact h8)
          have HB2 := Lib.hid b3
          have HB1 := Lib.hid b1
          have HMN := Lib.hid fun (k : Nat) (hk : k ≤ j) => fst_mono (ks := ks) (ds := ds) hk
          clear hnl hfS hff hfn b1 b3 V3
          have hd8 : decide ((K : Int) < 8) = true := decide_eq_true (by omega)
          generalize hxx : xs.getD i false = X at *
          have HXX := Lib.hid hxx
          clear hxx
          have W1 := HW1.out
          unfold PL at *
          go_upto_region 22 with (fail)
          clear W1
          go_wp2_with fail
          go_loop [14, 15] (fun t14 t15 => Hid (∃ k s : Nat, t14 = .int .i64 (s : Int) ∧ t15 = .int .i64 (k : Int) ∧ i ≤ k ∧ k ≤ j ∧ s + fst ks ds i = fst ks ds k)) (fun _ t15 => j - (intOf t15).toNat)
          case atStart => exact Lib.hid ⟨i, 0, rfl, rfl, Nat.le_refl _, Nat.le_of_lt hij, Nat.zero_add _⟩
          case round =>
            obtain ⟨k, s, rfl, rfl, hik, hkj, hsk⟩ := hrel.out
            have hfk := HMN.out k hkj
            have HSK := Lib.hid hsk
            clear hrel
            by_cases hkl : k < j
            · have e5 := CD.out k _ (by omega) HKJ.out
              have hdb := BD.out k
              have hst := HST.out k hik hkl
              have HSN : Hid (s + ds.getD k 0 + fst ks ds i = fst ks ds (k + 1)) := Lib.hid (by omega)
              generalize ds.getD k 0 = D at *
              have hss : s ≤ 65536 := by omega
              clear hst hsk
              go_wp2_with fail
              go_round
              case rel => exact Lib.hid ⟨k + 1, s + D, by go_num, by go_num, by omega, by omega, HSN.out⟩
              case measure => simp [intOf]; omega
            · obtain rfl : k = j := by omega
              obtain rfl : s = S := by have := HFS.out; omega
              clear hsk
              have r2 := HB1.out.kept HKJ.out
              have HL := Lib.hid (asLocalL g' (i : Int) wc (K : Int) X false a s c r2)
              clear r2
              unfold PL at *
              go_wp2_with fail
              refine HL.out.mono ?_
              rintro e w6 ⟨rfl, k6⟩
              have HKJ := Lib.hid (HKJ.out.trans k6)
              have hrw := HRC.out.kept HKJ.out
              clear k6 HL
              have e1 := CK.out i _ hin HKJ.out
              have e2 := CX.out i _ hin HKJ.out
              rw [HK8.out] at e1
              rw [HXX.out] at e2
              go_wp2_with fail
              go_loopw [20] (fun t20 W => Hid (∃ d : Nat, t20 = .int .i64 (d : Int) ∧ d ≤ s ∧ Kept w5 W)) (fun t20 _ => s - (intOf t20).toNat)
              case atStart => exact Lib.hid ⟨0, rfl, Nat.zero_le _, HKJ.out⟩
              case round =>
                obtain ⟨d, rfl, hd, hkw⟩ := hrel.out
                have HKD := Lib.hid hkw
                clear hrel hkw e1 e2 r0 r1
                have f0 := HR0.out _ HKD.out
                have f1 := HR1.out _ HKD.out
                by_cases hds : d < s
                · obtain ⟨b, r, rfl, q2, q3⟩ := HB2.out d hds
                  have HL := declRef g' (i : Int) wr (K : Int) X false b 0 d s c r 0 (fst ks ds i + d) .nilIface .nilIface .nilIface hds hSb (HB1.out.kept HKD.out) (HKD.out.cell q2) (q3.kept HKD.out)
                  rw [Int.natCast_add] at HL
                  have HL := Lib.hid HL
                  clear q2 q3
                  unfold PL at *
                  go_wp2_with fail
                  refine HL.out.mono ?_
                  rintro e w7 ⟨rfl, k7⟩
                  have HKD := Lib.hid (HKD.out.trans k7)
                  clear k7 HL f0 f1
                  go_wp2_with fail
                  go_roundw
                  case rel => exact Lib.hid ⟨d + 1, by go_num, by omega, HKD.out⟩
                  case measure => simp [intOf]; omega
                · obtain rfl : d = s := by omega
                  clear f0 f1
                  go_wp2_with fail
                  go_roundw
                  case rel => exact ⟨k, hj, rfl, by rw [HCJ.out]; go_num, by rw [← HFS.out]; go_num, HNX.out, HKD.out⟩
                  case measure => simp [intOf]; omega
        · obtain ⟨g', _, rfl, hb9⟩ := V3.out.1 (by rw [HK8.out]; omega)
          have hd8 : decide ((K : Int) < 8) = false := decide_eq_false (by omega)
          have hfe : fst ks ds j = fst ks ds i := by
            obtain rfl : j = i + 1 := by
              apply Classical.byContradiction
              intro hne
              have hb := HSG.out.2.2 (i + 1) (by omega) (by omega)
              have := ((brk_iff (Seg.one HSG.out.2.1)).1 hb)
              rw [HK8.out] at this
              omega
            show fst ks ds i + _ = _
            rw [HK8.out, if_neg h8, Nat.add_zero]
          have HFE := Lib.hid hfe
          have HL := Lib.hid (asExprX g' (i : Int) wc (hb9.kept HKJ.out))
          have W1 := HW1.out
          clear hfe hff hfn hb9 V3
          unfold PX at *
          go_upto_region 37 with (fail)
          clear W1
          go_wp2_with fail
          refine HL.out.mono ?_
          rintro e w6 ⟨rfl, k6⟩
          have HKJ := Lib.hid (HKJ.out.trans k6)
          clear k6 HL
          go_wp2_with fail
          go_roundw
          case rel => exact ⟨j, hj, rfl, by rw [HCJ.out]; go_num, by rw [HFE.out], HNX.out, HKJ.out⟩
          case measure => simp [intOf]; omega
    · obtain rfl : i = n := by omega
      rw [HCN.out]
      go_wp2_with fail
      go_ret
      exact ⟨rfl, (K5.out.trans HKW.out).below⟩
end Go.Proofs.Ytolphikbppmobab.mj
