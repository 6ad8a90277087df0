/-
  FnShouldIncludePartOnlyTargetWrapMatters over this seat's program, behind its guards: slices of fitting lengths.
  Conditions: the slices are readable, at most 65536 elements each.
-/
import Derived.Test.YtlpgghdimjmkiabSip5
import Derived.Test.YtlpgghdimjmkiabClone8
import Derived.Test.YtlpgghdimjmkiabClone32
import Derived.Test.YtlpgghdimjmkiabCloneBo
namespace Go.Proofs.Ytlpgghdimjmkiab.sip
open Go.ChangeShapes Go.WideShapes Go.ChangeAt Go.RowKit
open kit

set_option maxRecDepth 100000 in
set_option maxHeartbeats 16000000 in
theorem main2 (a0 : Option Addr) (n0 c0 : Nat) (zs : List Int) (a1 : Option Addr) (c1 : Nat) (zb : List Int) (a2 : Option Addr) (n2 c2 : Nat) (bs : List Bool) (a3 : Option Addr) (c3 : Nat) (ts : List Int) (a4 : Option Addr) (n4 c4 : Nat) (is : List Bool) (a5 : Option Addr) (c5 : Nat) (rs : List Int) (w : World)
    (h0 : Row w a0 n0 c0 (zs.map (Value.int .u8))) (h1 : Row w a1 n0 c1 (zb.map (Value.int .u8))) (h2 : Row w a2 n2 c2 (bs.map Value.bool)) (h3 : Row w a3 n2 c3 (ts.map (Value.int .u32))) (h4 : Row w a4 n4 c4 (is.map Value.bool)) (h5 : Row w a5 n4 c5 (rs.map (Value.int .u32)))
    (hts : ∀ j, 0 ≤ ts.getD j 0 ∧ ts.getD j 0 ≤ 4294967295) (hrs : ∀ j, 0 ≤ rs.getD j 0) (b0 : n0 ≤ 65536) (b2 : n2 ≤ 65536) (b4 : n4 ≤ 65536) :
    Calls Try.prog 3 #[.slice a0 n0 c0, .slice a1 n0 c1, .slice a2 n2 c2, .slice a3 n2 c3, .slice a4 n4 c4, .slice a5 n4 c5] w fun e w' => e = .returned (.bool true) ∧ Below w.heap.size w w' := by
  have HBY := Lib.hid (sip.bytes a0 n0 c0 a1 n0 c1 a2 n2 c2 a3 n2 c3 a4 n4 c4 a5 n4 c5 w)
  have HWF := Lib.hid (wf5 w a0 n0 c0 a2 n2 c2 bs a3 n2 c3 ts a4 n4 c4 is a5 n4 c5 rs h2 h3 h4 h5 b0 b2 b2 b4 b4)
  have H0 := Lib.hid h0
  have H1 := Lib.hid h1
  have H2 := Lib.hid h2
  have H3 := Lib.hid h3
  have H4 := Lib.hid h4
  have H5 := Lib.hid h5
  have HTS := Lib.hid hts
  have HRS := Lib.hid hrs
  obtain ⟨r, hr⟩ : ∃ r, r = (rs.getD 0 0).toNat := ⟨_, rfl⟩
  obtain ⟨t, ht⟩ : ∃ t, t = (ts.getD r 0).toNat := ⟨_, rfl⟩
  have er : rs.getD 0 0 = (r : Int) := by have := hrs 0; omega
  have et : ts.getD r 0 = (t : Int) := by have := (hts r).1; omega
  have ER := Lib.hid er
  have ET := Lib.hid et
  have HR := Lib.hid hr
  have HT := Lib.hid ht
  clear h0 h1 h2 h3 h4 h5 hts hrs hr ht er et
  have CL0 := Lib.hid (clone8.run a0 n0 c0 zs w H0.out (by omega))
  have q0 : (n0 : Int) ≤ 65536 := by omega
  have q2 : (n2 : Int) ≤ 65536 := by omega
  have q4 : (n4 : Int) ≤ 65536 := by omega
  by_cases hc : n4 = 1 ∧ is.getD 0 false = true
  · obtain ⟨hn4, hi0⟩ := hc
    have q1 : ((n4 : Int) == 1) = true := by simp; omega
    have q5 : (0 : Int) < (n4 : Int) := by omega
    have HN4 := Lib.hid hn4
    obtain ⟨bi, oi, rfl, xi⟩ := at_ H4.out false (k := 0) (by omega)
    obtain ⟨br, orr, rfl, xr⟩ := at_ H5.out 0 (k := 0) (by omega)
    rw [hi0, Nat.add_zero] at xi
    rw [ER.out, Nat.add_zero] at xr
    have HI0 := Lib.hid hi0
    clear hi0 hn4
    go_enter Try.func3, Try.ntmps3
    go_wp2_with fail
    refine HBY.out.mono ?_
    rintro e w' ⟨⟨b, rfl⟩, rfl⟩
    cases b
    · go_wp2_with fail
      go_ret
      exact ⟨rfl, Below.refl _ _⟩
    go_wp2_with fail
    refine HWF.out.mono ?_
    rintro e w' ⟨⟨b, rfl, hwf⟩, rfl⟩
    cases b
    · clear hwf
      go_wp2_with fail
      go_ret
      exact ⟨rfl, Below.refl _ _⟩
    have HW := Lib.hid (hwf rfl)
    clear hwf HWF HBY
    have hrn : r < n2 := by have := HW.out.r 0 (by have := HN4.out; omega) HI0.out; rw [ER.out] at this; omega
    obtain ⟨g2, f2, rfl, x2⟩ := at_ H2.out false (k := r) hrn
    have i0 : (0 : Int) ≤ (r : Int) := by omega
    have i1 : (r : Int) < (n2 : Int) := by omega
    cases hb : bs.getD r false
    · rw [hb] at x2
      have HEQ : Hid (inc zs bs ts n4 is rs = inc zb bs ts n4 is rs) := Lib.hid (by unfold inc; rw [← HR.out, hb]; simp)
      clear hb
      go_wp2_with fail
      go_quiet (fail)
      have KD : Hid (Kept w (w.drewN nq)) := Lib.hid ((Kept.refl _).drewN _)
      have C0 := Lib.hid (clone8.run _ n0 c0 zs (w.drewN nq) (H0.out.kept KD.out) (by omega))
      go_wp2_with fail
      refine C0.out.mono ?_
      rintro e w1 ⟨p0, rfl, o0, _, k1⟩
      have R0 := Lib.hid (Row.of_own o0)
      have K1 := Lib.hid (KD.out.trans k1)
      clear o0 k1 C0
      have C1 := Lib.hid (clone8.run _ n0 c1 zb w1 (H1.out.kept K1.out) (by omega))
      go_wp2_with fail
      refine C1.out.mono ?_
      rintro e w2 ⟨p1, rfl, o1, _, k2⟩
      have R1 := Lib.hid (Row.of_own o1)
      have K2 := Lib.hid k2
      clear o1 k2 C1
      have C2 := Lib.hid (cloneBo.run _ n2 c2 bs w2 ((H2.out.kept K1.out).kept K2.out) (by omega))
      go_wp2_with fail
      refine C2.out.mono ?_
      rintro e w3 ⟨p2, rfl, o2, _, k3⟩
      have R2 := Lib.hid (Row.of_own o2)
      have K3 := Lib.hid k3
      clear o2 k3 C2
      have C3 := Lib.hid (clone32.run _ n2 c3 ts w3 (((H3.out.kept K1.out).kept K2.out).kept K3.out) (by omega))
      go_wp2_with fail
      refine C3.out.mono ?_
      rintro e w4 ⟨p3, rfl, o3, _, k4⟩
      have R3 := Lib.hid (Row.of_own o3)
      have K4 := Lib.hid k4
      clear o3 k4 C3
      have C4 := Lib.hid (cloneBo.run _ n4 c4 is w4 ((((H4.out.kept K1.out).kept K2.out).kept K3.out).kept K4.out) (by omega))
      go_wp2_with fail
      refine C4.out.mono ?_
      rintro e w5 ⟨p4, rfl, o4, _, k5⟩
      have R4 := Lib.hid (Row.of_own o4)
      have K5 := Lib.hid k5
      clear o4 k5 C4
      have C5 := Lib.hid (clone32.run _ n4 c5 rs w5 (((((H5.out.kept K1.out).kept K2.out).kept K3.out).kept K4.out).kept K5.out) (by omega))
      go_wp2_with fail
      refine C5.out.mono ?_
      rintro e w6 ⟨p5, rfl, o5, _, k6⟩
      have R5 := Lib.hid (Row.of_own o5)
      have K6 := Lib.hid k6
      clear o5 k6 C5
      obtain ⟨res, hres⟩ : ∃ res, inc zs bs ts n4 is rs = res := ⟨_, rfl⟩
      have be := build w6 p0 n0 n0 zs p2 n2 n2 bs p3 n2 ts p4 n4 n4 is p5 n4 rs (((((R0.out.kept K2.out).kept K3.out).kept K4.out).kept K5.out).kept K6.out) (((R2.out.kept K4.out).kept K5.out).kept K6.out) ((R3.out.kept K5.out).kept K6.out) (R4.out.kept K6.out) R5.out b0 b2 b4 HTS.out HRS.out HW.out.t HW.out.r
      rw [hres] at be
      have BE := Lib.hid be
      have HRES := Lib.hid hres
      clear be hres
      go_wp2_with fail
      refine BE.out.mono ?_
      rintro e w7 ⟨rfl, k7⟩
      have K7 := Lib.hid k7
      clear k7 BE
      have be := build w7 p1 n0 n0 zb p2 n2 n2 bs p3 n2 ts p4 n4 n4 is p5 n4 rs (((((R1.out.kept K3.out).kept K4.out).kept K5.out).kept K6.out).kept K7.out) ((((R2.out.kept K4.out).kept K5.out).kept K6.out).kept K7.out) (((R3.out.kept K5.out).kept K6.out).kept K7.out) ((R4.out.kept K6.out).kept K7.out) (R5.out.kept K7.out) b0 b2 b4 HTS.out HRS.out HW.out.t HW.out.r
      rw [← HEQ.out, HRES.out] at be
      have BE := Lib.hid be
      clear be
      go_wp2_with fail
      refine BE.out.mono ?_
      rintro e w8 ⟨rfl, k8⟩
      have K8 := Lib.hid k8
      clear k8 BE HRES HEQ
      cases res
      all_goals
        go_wp2
        go_ret
        exact ⟨rfl, ((((((K1.out.trans K2.out).trans K3.out).trans K4.out).trans K5.out).trans K6.out).trans K7.out).trans K8.out⟩
    · rw [hb] at x2
      have htn : t < n0 := by have := HW.out.t r hrn hb; rw [ET.out] at this; omega
      obtain ⟨g3, f3, rfl, x3⟩ := at_ H3.out 0 (k := r) hrn
      rw [ET.out] at x3
      obtain ⟨b6, o6, rfl, x6⟩ := at_ H0.out 0 (k := t) htn
      obtain ⟨b7, o7, rfl, x7⟩ := at_ H1.out 0 (k := t) htn
      have j0 : (0 : Int) ≤ (t : Int) := by omega
      have j1 : (t : Int) < (n0 : Int) := by omega
      by_cases hz : zb.getD t 0 = zs.getD t 0
      · have HEQ : Hid (inc zs bs ts n4 is rs = inc zb bs ts n4 is rs) := Lib.hid (by unfold inc; rw [← HR.out, ← HT.out, hz])
        rw [hz] at x7
        clear hb hz
        generalize zs.getD t 0 = z at *
        go_wp2_with fail
        go_quiet (fail)
        have KD : Hid (Kept w (w.drewN nq)) := Lib.hid ((Kept.refl _).drewN _)
        have C0 := Lib.hid (clone8.run _ n0 c0 zs (w.drewN nq) (H0.out.kept KD.out) (by omega))
        go_wp2_with fail
        refine C0.out.mono ?_
        rintro e w1 ⟨p0, rfl, o0, _, k1⟩
        have R0 := Lib.hid (Row.of_own o0)
        have K1 := Lib.hid (KD.out.trans k1)
        clear o0 k1 C0
        have C1 := Lib.hid (clone8.run _ n0 c1 zb w1 (H1.out.kept K1.out) (by omega))
        go_wp2_with fail
        refine C1.out.mono ?_
        rintro e w2 ⟨p1, rfl, o1, _, k2⟩
        have R1 := Lib.hid (Row.of_own o1)
        have K2 := Lib.hid k2
        clear o1 k2 C1
        have C2 := Lib.hid (cloneBo.run _ n2 c2 bs w2 ((H2.out.kept K1.out).kept K2.out) (by omega))
        go_wp2_with fail
        refine C2.out.mono ?_
        rintro e w3 ⟨p2, rfl, o2, _, k3⟩
        have R2 := Lib.hid (Row.of_own o2)
        have K3 := Lib.hid k3
        clear o2 k3 C2
        have C3 := Lib.hid (clone32.run _ n2 c3 ts w3 (((H3.out.kept K1.out).kept K2.out).kept K3.out) (by omega))
        go_wp2_with fail
        refine C3.out.mono ?_
        rintro e w4 ⟨p3, rfl, o3, _, k4⟩
        have R3 := Lib.hid (Row.of_own o3)
        have K4 := Lib.hid k4
        clear o3 k4 C3
        have C4 := Lib.hid (cloneBo.run _ n4 c4 is w4 ((((H4.out.kept K1.out).kept K2.out).kept K3.out).kept K4.out) (by omega))
        go_wp2_with fail
        refine C4.out.mono ?_
        rintro e w5 ⟨p4, rfl, o4, _, k5⟩
        have R4 := Lib.hid (Row.of_own o4)
        have K5 := Lib.hid k5
        clear o4 k5 C4
        have C5 := Lib.hid (clone32.run _ n4 c5 rs w5 (((((H5.out.kept K1.out).kept K2.out).kept K3.out).kept K4.out).kept K5.out) (by omega))
        go_wp2_with fail
        refine C5.out.mono ?_
        rintro e w6 ⟨p5, rfl, o5, _, k6⟩
        have R5 := Lib.hid (Row.of_own o5)
        have K6 := Lib.hid k6
        clear o5 k6 C5
        obtain ⟨res, hres⟩ : ∃ res, inc zs bs ts n4 is rs = res := ⟨_, rfl⟩
        have be := build w6 p0 n0 n0 zs p2 n2 n2 bs p3 n2 ts p4 n4 n4 is p5 n4 rs (((((R0.out.kept K2.out).kept K3.out).kept K4.out).kept K5.out).kept K6.out) (((R2.out.kept K4.out).kept K5.out).kept K6.out) ((R3.out.kept K5.out).kept K6.out) (R4.out.kept K6.out) R5.out b0 b2 b4 HTS.out HRS.out HW.out.t HW.out.r
        rw [hres] at be
        have BE := Lib.hid be
        have HRES := Lib.hid hres
        clear be hres
        go_wp2_with fail
        refine BE.out.mono ?_
        rintro e w7 ⟨rfl, k7⟩
        have K7 := Lib.hid k7
        clear k7 BE
        have be := build w7 p1 n0 n0 zb p2 n2 n2 bs p3 n2 ts p4 n4 n4 is p5 n4 rs (((((R1.out.kept K3.out).kept K4.out).kept K5.out).kept K6.out).kept K7.out) ((((R2.out.kept K4.out).kept K5.out).kept K6.out).kept K7.out) (((R3.out.kept K5.out).kept K6.out).kept K7.out) ((R4.out.kept K6.out).kept K7.out) (R5.out.kept K7.out) b0 b2 b4 HTS.out HRS.out HW.out.t HW.out.r
        rw [← HEQ.out, HRES.out] at be
        have BE := Lib.hid be
        clear be
        go_wp2_with fail
        refine BE.out.mono ?_
        rintro e w8 ⟨rfl, k8⟩
        have K8 := Lib.hid k8
        clear k8 BE HRES HEQ
        cases res
        all_goals
          go_wp2
          go_ret
          exact ⟨rfl, ((((((K1.out.trans K2.out).trans K3.out).trans K4.out).trans K5.out).trans K6.out).trans K7.out).trans K8.out⟩
      · have hz2 : (zb.getD t 0 == zs.getD t 0) = false := by simpa using hz
        clear hb hz
        generalize zs.getD t 0 = z at *
        generalize zb.getD t 0 = y at *
        go_wp2_with fail
        go_quiet (fail)
        go_wp2_with fail
        go_ret
        exact ⟨rfl, (below_drewN (Below.refl _ _) _)⟩
  · have HEQ : Hid (inc zs bs ts n4 is rs = inc zb bs ts n4 is rs) := Lib.hid (by
      unfold inc
      by_cases h1 : n4 = 1
      · have h2 : is.getD 0 false = false := by
          cases h : is.getD 0 false
          · rfl
          · exact absurd ⟨h1, h⟩ hc
        rw [h2]; simp
      · simp [h1])
    by_cases h1 : n4 = 1
    · have hi0 : is.getD 0 false = false := by
        cases h : is.getD 0 false
        · rfl
        · exact absurd ⟨h1, h⟩ hc
      have q1 : ((n4 : Int) == 1) = true := by simp; omega
      have q5 : (0 : Int) < (n4 : Int) := by omega
      obtain ⟨bi, oi, rfl, xi⟩ := at_ H4.out false (k := 0) (by omega)
      rw [hi0, Nat.add_zero] at xi
      clear hc h1 hi0
      go_enter Try.func3, Try.ntmps3
      go_wp2_with fail
      refine HBY.out.mono ?_
      rintro e w' ⟨⟨b, rfl⟩, rfl⟩
      cases b
      · go_wp2_with fail
        go_ret
        exact ⟨rfl, Below.refl _ _⟩
      go_wp2_with fail
      refine HWF.out.mono ?_
      rintro e w' ⟨⟨b, rfl, hwf⟩, rfl⟩
      cases b
      · clear hwf
        go_wp2_with fail
        go_ret
        exact ⟨rfl, Below.refl _ _⟩
      have HW := Lib.hid (hwf rfl)
      clear hwf HWF HBY
      go_wp2_with fail
      go_quiet (fail)
      have KD : Hid (Kept w (w.drewN nq)) := Lib.hid ((Kept.refl _).drewN _)
      have C0 := Lib.hid (clone8.run _ n0 c0 zs (w.drewN nq) (H0.out.kept KD.out) (by omega))
      go_wp2_with fail
      refine C0.out.mono ?_
      rintro e w1 ⟨p0, rfl, o0, _, k1⟩
      have R0 := Lib.hid (Row.of_own o0)
      have K1 := Lib.hid (KD.out.trans k1)
      clear o0 k1 C0
      have C1 := Lib.hid (clone8.run _ n0 c1 zb w1 (H1.out.kept K1.out) (by omega))
      go_wp2_with fail
      refine C1.out.mono ?_
      rintro e w2 ⟨p1, rfl, o1, _, k2⟩
      have R1 := Lib.hid (Row.of_own o1)
      have K2 := Lib.hid k2
      clear o1 k2 C1
      have C2 := Lib.hid (cloneBo.run _ n2 c2 bs w2 ((H2.out.kept K1.out).kept K2.out) (by omega))
      go_wp2_with fail
      refine C2.out.mono ?_
      rintro e w3 ⟨p2, rfl, o2, _, k3⟩
      have R2 := Lib.hid (Row.of_own o2)
      have K3 := Lib.hid k3
      clear o2 k3 C2
      have C3 := Lib.hid (clone32.run _ n2 c3 ts w3 (((H3.out.kept K1.out).kept K2.out).kept K3.out) (by omega))
      go_wp2_with fail
      refine C3.out.mono ?_
      rintro e w4 ⟨p3, rfl, o3, _, k4⟩
      have R3 := Lib.hid (Row.of_own o3)
      have K4 := Lib.hid k4
      clear o3 k4 C3
      have C4 := Lib.hid (cloneBo.run _ n4 c4 is w4 ((((H4.out.kept K1.out).kept K2.out).kept K3.out).kept K4.out) (by omega))
      go_wp2_with fail
      refine C4.out.mono ?_
      rintro e w5 ⟨p4, rfl, o4, _, k5⟩
      have R4 := Lib.hid (Row.of_own o4)
      have K5 := Lib.hid k5
      clear o4 k5 C4
      have C5 := Lib.hid (clone32.run _ n4 c5 rs w5 (((((H5.out.kept K1.out).kept K2.out).kept K3.out).kept K4.out).kept K5.out) (by omega))
      go_wp2_with fail
      refine C5.out.mono ?_
      rintro e w6 ⟨p5, rfl, o5, _, k6⟩
      have R5 := Lib.hid (Row.of_own o5)
      have K6 := Lib.hid k6
      clear o5 k6 C5
      obtain ⟨res, hres⟩ : ∃ res, inc zs bs ts n4 is rs = res := ⟨_, rfl⟩
      have be := build w6 p0 n0 n0 zs p2 n2 n2 bs p3 n2 ts p4 n4 n4 is p5 n4 rs (((((R0.out.kept K2.out).kept K3.out).kept K4.out).kept K5.out).kept K6.out) (((R2.out.kept K4.out).kept K5.out).kept K6.out) ((R3.out.kept K5.out).kept K6.out) (R4.out.kept K6.out) R5.out b0 b2 b4 HTS.out HRS.out HW.out.t HW.out.r
      rw [hres] at be
      have BE := Lib.hid be
      have HRES := Lib.hid hres
      clear be hres
      go_wp2_with fail
      refine BE.out.mono ?_
      rintro e w7 ⟨rfl, k7⟩
      have K7 := Lib.hid k7
      clear k7 BE
      have be := build w7 p1 n0 n0 zb p2 n2 n2 bs p3 n2 ts p4 n4 n4 is p5 n4 rs (((((R1.out.kept K3.out).kept K4.out).kept K5.out).kept K6.out).kept K7.out) ((((R2.out.kept K4.out).kept K5.out).kept K6.out).kept K7.out) (((R3.out.kept K5.out).kept K6.out).kept K7.out) ((R4.out.kept K6.out).kept K7.out) (R5.out.kept K7.out) b0 b2 b4 HTS.out HRS.out HW.out.t HW.out.r
      rw [← HEQ.out, HRES.out] at be
      have BE := Lib.hid be
      clear be
      go_wp2_with fail
      refine BE.out.mono ?_
      rintro e w8 ⟨rfl, k8⟩
      have K8 := Lib.hid k8
      clear k8 BE HRES HEQ
      cases res
      all_goals
        go_wp2
        go_ret
        exact ⟨rfl, ((((((K1.out.trans K2.out).trans K3.out).trans K4.out).trans K5.out).trans K6.out).trans K7.out).trans K8.out⟩
    · have q1 : ((n4 : Int) == 1) = false := by simp; omega
      clear hc h1
      go_enter Try.func3, Try.ntmps3
      go_wp2_with fail
      refine HBY.out.mono ?_
      rintro e w' ⟨⟨b, rfl⟩, rfl⟩
      cases b
      · go_wp2_with fail
        go_ret
        exact ⟨rfl, Below.refl _ _⟩
      go_wp2_with fail
      refine HWF.out.mono ?_
      rintro e w' ⟨⟨b, rfl, hwf⟩, rfl⟩
      cases b
      · clear hwf
        go_wp2_with fail
        go_ret
        exact ⟨rfl, Below.refl _ _⟩
      have HW := Lib.hid (hwf rfl)
      clear hwf HWF HBY
      go_wp2_with fail
      go_quiet (fail)
      have KD : Hid (Kept w (w.drewN nq)) := Lib.hid ((Kept.refl _).drewN _)
      have C0 := Lib.hid (clone8.run _ n0 c0 zs (w.drewN nq) (H0.out.kept KD.out) (by omega))
      go_wp2_with fail
      refine C0.out.mono ?_
      rintro e w1 ⟨p0, rfl, o0, _, k1⟩
      have R0 := Lib.hid (Row.of_own o0)
      have K1 := Lib.hid (KD.out.trans k1)
      clear o0 k1 C0
      have C1 := Lib.hid (clone8.run _ n0 c1 zb w1 (H1.out.kept K1.out) (by omega))
      go_wp2_with fail
      refine C1.out.mono ?_
      rintro e w2 ⟨p1, rfl, o1, _, k2⟩
      have R1 := Lib.hid (Row.of_own o1)
      have K2 := Lib.hid k2
      clear o1 k2 C1
      have C2 := Lib.hid (cloneBo.run _ n2 c2 bs w2 ((H2.out.kept K1.out).kept K2.out) (by omega))
      go_wp2_with fail
      refine C2.out.mono ?_
      rintro e w3 ⟨p2, rfl, o2, _, k3⟩
      have R2 := Lib.hid (Row.of_own o2)
      have K3 := Lib.hid k3
      clear o2 k3 C2
      have C3 := Lib.hid (clone32.run _ n2 c3 ts w3 (((H3.out.kept K1.out).kept K2.out).kept K3.out) (by omega))
      go_wp2_with fail
      refine C3.out.mono ?_
      rintro e w4 ⟨p3, rfl, o3, _, k4⟩
      have R3 := Lib.hid (Row.of_own o3)
      have K4 := Lib.hid k4
      clear o3 k4 C3
      have C4 := Lib.hid (cloneBo.run _ n4 c4 is w4 ((((H4.out.kept K1.out).kept K2.out).kept K3.out).kept K4.out) (by omega))
      go_wp2_with fail
      refine C4.out.mono ?_
      rintro e w5 ⟨p4, rfl, o4, _, k5⟩
      have R4 := Lib.hid (Row.of_own o4)
      have K5 := Lib.hid k5
      clear o4 k5 C4
      have C5 := Lib.hid (clone32.run _ n4 c5 rs w5 (((((H5.out.kept K1.out).kept K2.out).kept K3.out).kept K4.out).kept K5.out) (by omega))
      go_wp2_with fail
      refine C5.out.mono ?_
      rintro e w6 ⟨p5, rfl, o5, _, k6⟩
      have R5 := Lib.hid (Row.of_own o5)
      have K6 := Lib.hid k6
      clear o5 k6 C5
      obtain ⟨res, hres⟩ : ∃ res, inc zs bs ts n4 is rs = res := ⟨_, rfl⟩
      have be := build w6 p0 n0 n0 zs p2 n2 n2 bs p3 n2 ts p4 n4 n4 is p5 n4 rs (((((R0.out.kept K2.out).kept K3.out).kept K4.out).kept K5.out).kept K6.out) (((R2.out.kept K4.out).kept K5.out).kept K6.out) ((R3.out.kept K5.out).kept K6.out) (R4.out.kept K6.out) R5.out b0 b2 b4 HTS.out HRS.out HW.out.t HW.out.r
      rw [hres] at be
      have BE := Lib.hid be
      have HRES := Lib.hid hres
      clear be hres
      go_wp2_with fail
      refine BE.out.mono ?_
      rintro e w7 ⟨rfl, k7⟩
      have K7 := Lib.hid k7
      clear k7 BE
      have be := build w7 p1 n0 n0 zb p2 n2 n2 bs p3 n2 ts p4 n4 n4 is p5 n4 rs (((((R1.out.kept K3.out).kept K4.out).kept K5.out).kept K6.out).kept K7.out) ((((R2.out.kept K4.out).kept K5.out).kept K6.out).kept K7.out) (((R3.out.kept K5.out).kept K6.out).kept K7.out) ((R4.out.kept K6.out).kept K7.out) (R5.out.kept K7.out) b0 b2 b4 HTS.out HRS.out HW.out.t HW.out.r
      rw [← HEQ.out, HRES.out] at be
      have BE := Lib.hid be
      clear be
      go_wp2_with fail
      refine BE.out.mono ?_
      rintro e w8 ⟨rfl, k8⟩
      have K8 := Lib.hid k8
      clear k8 BE HRES HEQ
      cases res
      all_goals
        go_wp2
        go_ret
        exact ⟨rfl, ((((((K1.out.trans K2.out).trans K3.out).trans K4.out).trans K5.out).trans K6.out).trans K7.out).trans K8.out⟩
end Go.Proofs.Ytlpgghdimjmkiab.sip
