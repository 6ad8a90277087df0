/-
  FnMarkReachableOrderFree's walk over this seat's program.
  Conditions: the files are readable.
-/
import Derived.Test.YtgnccfofhcbjjaaRb
import Derived.Test.YtgnccfofhcbjjaaGd
namespace Go.Proofs.Ytgnccfofhcbjjaa.lk
open Go.ChangeShapes Go.WideShapes Go.ChangeAt Go.RowKit
open kit dfs dst

def LawTrue (w : World) (e : Ending) (w' : World) : Prop := e = .returned (.bool true) ∧ Kept w w'
def LA (w : World) (n : Nat) (t19 : Value) (W : World) : Prop := ∃ i : Nat, i ≤ n ∧ t19 = .int .i64 (i : Int) ∧ Kept w W
def LBit (w : World) (t21 : Value) (W : World) : Prop := ∃ b : Nat, b ≤ 256 ∧ t21 = .int .i64 (b : Int) ∧ Kept w W
set_option maxRecDepth 100000 in
set_option maxHeartbeats 16000000 in
theorem lawReach (w : World) (a : Option Addr) (n c : Nat) (F : Ct) (s b1 t b2 : Nat) (h : FilesC w (.slice a n c) F) (hF : F.length = n) (hm : n ≤ 9223372036854775807) (hs : s ≤ 4294967295) (ht : t ≤ 4294967295) (hb1 : b1 ≤ 255) (hb2 : b2 ≤ 255) :
    Calls Try.prog 3 #[.slice a n c, .int .u32 (s : Int), .int .u8 (b1 : Int), .int .u32 (t : Int), .int .u8 (b2 : Int)] w (LawTrue w) := by
  have HF := Lib.hid h
  have HN := Lib.hid hF
  clear h hF
  have Ws : IntKind.u64.wrap (s : Int) = (s : Int) := by rw [IntKind.wrap_u64]; omega
  have Wt : IntKind.u64.wrap (t : Int) = (t : Int) := by rw [IntKind.wrap_u64]; omega
  have Wn : IntKind.u64.wrap (n : Int) = (n : Int) := by rw [IntKind.wrap_u64]; omega
  have W1 : IntKind.i64.wrap (b1 : Int) = (b1 : Int) := IntWalk.i64_in _ (by omega)
  have W2 : IntKind.i64.wrap (b2 : Int) = (b2 : Int) := IntWalk.i64_in _ (by omega)
  have U1 : IntKind.u64.wrap (b1 : Int) = (b1 : Int) := by rw [IntKind.wrap_u64]; omega
  have U2 : IntKind.u64.wrap (b2 : Int) = (b2 : Int) := by rw [IntKind.wrap_u64]; omega
  go_enter Try.func3, Try.ntmps3
  go_wp2_with fail
  refine (bytes5 w a n c F s t b1 b2 HF.out HN.out hm).mono ?_
  rintro e w1 ⟨⟨x0, rfl, hx0⟩, rfl⟩
  have HX0 := Lib.hid hx0
  clear hx0
  cases x0
  · go_wp2_with fail
    go_ret
    exact ⟨rfl, Kept.refl _⟩
  have hn1 : n ≤ 1048576 := by have := (HX0.out (by first | rfl | trivial)).1; have := HN.out; omega
  go_wp2_with fail
  refine (size w a n c F HF.out HN.out hn1 (by have := (HX0.out (by first | rfl | trivial)).2; have e := HN.out; rw [e] at this; exact this)).mono ?_
  rintro e w1 ⟨⟨x, rfl, hx⟩, rfl⟩
  have HX := Lib.hid hx
  clear hx HX0
  by_cases hx7 : ¬ x ≤ 1048576
  · go_wp2_with fail
    go_ret
    exact ⟨rfl, Kept.refl _⟩
  have hx6 : x ≤ 1048576 := by omega
  clear hx7
  have hn2 := (HX.out hx6).1
  have HL := Lib.hid (HX.out hx6).2
  clear HX
  by_cases hn3 : ¬ n ≤ 256
  · have hn4 : (256 : Int) < (n : Int) := by omega
    go_wp2_with fail
    go_ret
    exact ⟨rfl, Kept.refl _⟩
  have hn4 : ¬ (256 : Int) < (n : Int) := by omega
  by_cases hsn : ¬ s < n
  · have hsn2 : (n : Int) ≤ (s : Int) := by omega
    go_wp2_with fail
    go_ret
    exact ⟨rfl, Kept.refl _⟩
  have hsn2 : ¬ (n : Int) ≤ (s : Int) := by omega
  by_cases htn : ¬ t < n
  · have htn2 : (n : Int) ≤ (t : Int) := by omega
    go_wp2_with fail
    go_ret
    exact ⟨rfl, Kept.refl _⟩
  have htn2 : ¬ (n : Int) ≤ (t : Int) := by omega
  go_wp2_with fail
  refine (wellFormed w a n c F HF.out HN.out hn2 HL.out).mono ?_
  rintro e w1 ⟨⟨x1, rfl, hx1⟩, k1⟩
  have HX1 := Lib.hid hx1
  have K1 := Lib.hid k1
  clear hx1 k1
  cases x1
  · go_wp2_with fail
    go_ret
    exact ⟨rfl, K1.out⟩
  have HOK := Lib.hid (HX1.out (by first | rfl | trivial))
  clear HX1
  go_wp2_with fail
  refine (clone w1 a n c F (HF.out.kept K1.out) HN.out hn2 HL.out).mono ?_
  rintro e w2 ⟨⟨v, rfl, hv⟩, k2⟩
  obtain ⟨a2, c2, rfl, hc2, hc3, _⟩ := Sl.len hv
  have HF2 := Lib.hid hv
  have K2 := Lib.hid (K1.out.trans k2)
  clear hv k2 HF
  obtain rfl := HN.out
  have HFIT : Hid (Fits F) := Lib.hid ⟨hn2, HL.out, HOK.out⟩
  go_wp2_with fail
  have hn5 : F.length ≤ 256 := by omega
  have hsn3 : s < F.length := by omega
  have htn3 : t < F.length := by omega
  have hb3 : b1 < 256 := by omega
  have hb4 : b2 < 256 := by omega
  clear hn3 hsn htn hn4 hsn2 htn2 hx6 hn1 Ws Wt Wn HN
  refine (build w2 a2 F.length c2 F true HF2.out rfl hn2 HL.out HOK.out).mono ?_
  rintro e w3 ⟨rfl, J1, E1, P1, hbd⟩
  have HB1 := Lib.hid hbd
  clear hbd
  go_wp2_with fail
  refine (run1 w2 w3 F J1 E1 P1 s b1 HB1.out HFIT.out hn5 hsn3 hb3).mono ?_
  rintro e w4 ⟨rfl, d1, e1, r, rs, k⟩
  have HR1 := Lib.hid r
  have HS1 := Lib.hid rs
  have HK1 := Lib.hid k
  have HF4 := Lib.hid (HF2.out.kept k)
  clear r rs k HB1
  generalize w2.heap.size = L1 at *
  go_wp2_with fail
  refine (build w4 a2 F.length c2 F true HF4.out rfl hn2 HL.out HOK.out).mono ?_
  rintro e w5 ⟨rfl, J2, E2, P2, hbd⟩
  have HB2 := Lib.hid hbd
  clear hbd
  go_wp2_with fail
  refine (run1 w4 w5 F J2 E2 P2 t b2 HB2.out HFIT.out hn5 htn3 hb4).mono ?_
  rintro e w6 ⟨rfl, d2, e2, r, rs, k⟩
  have HR2 := Lib.hid r
  have HS2 := Lib.hid rs
  have HK2 := Lib.hid k
  have HF6 := Lib.hid (HF4.out.kept k)
  clear r rs k HB2
  generalize w4.heap.size = L2 at *
  go_wp2_with fail
  refine (build w6 a2 F.length c2 F true HF6.out rfl hn2 HL.out HOK.out).mono ?_
  rintro e w7 ⟨rfl, J3, E3, P3, hbd⟩
  have HB3 := Lib.hid hbd
  clear hbd
  go_wp2_with fail
  refine (run2 w6 w7 F J3 E3 P3 s b1 t b2 HB3.out HFIT.out hn5 hsn3 hb3 htn3 hb4).mono ?_
  rintro e w8 ⟨rfl, d3, e3, r, rs, k⟩
  have HR3 := Lib.hid r
  have HS3 := Lib.hid rs
  have HK3 := Lib.hid k
  have HF8 := Lib.hid (HF6.out.kept k)
  clear r rs k HB3
  generalize w6.heap.size = L3 at *
  go_wp2_with fail
  refine (build w8 a2 F.length c2 F true HF8.out rfl hn2 HL.out HOK.out).mono ?_
  rintro e w9 ⟨rfl, J4, E4, P4, hbd⟩
  have HB4 := Lib.hid hbd
  clear hbd
  go_wp2_with fail
  refine (run2 w8 w9 F J4 E4 P4 t b2 s b1 HB4.out HFIT.out hn5 htn3 hb4 hsn3 hb3).mono ?_
  rintro e w10 ⟨rfl, d4, e4, r, rs, k⟩
  have HR4 := Lib.hid r
  have HS4 := Lib.hid rs
  have HK4 := Lib.hid k
  have HF10 := Lib.hid (HF8.out.kept k)
  clear r rs k HB4
  generalize w8.heap.size = L4 at *
  go_wp2_with fail
  have HFOUR := Lib.hid (four HR1.out HR2.out HR3.out HR4.out)
  have S1 := Lib.hid (((HS1.out.kept HK2.out).kept HK3.out).kept HK4.out)
  have S2 := Lib.hid ((HS2.out.kept HK3.out).kept HK4.out)
  have S3 := Lib.hid (HS3.out.kept HK4.out)
  have S4 := HS4
  have HK := Lib.hid ((((K2.out.trans HK1.out).trans HK2.out).trans HK3.out).trans HK4.out)
  have HA0 : Hid (LA w10 F.length (.int .i64 0) w10) := Lib.hid ⟨0, Nat.zero_le _, rfl, Kept.refl _⟩
  clear HR1 HR2 HR3 HR4 HS1 HS2 HS3 HS4 HK1 HK2 HK3 HK4 HF2 HF4 HF6 HF8 K2 K1 HFIT HOK HL
  go_loopw [19] (fun t19 W => LA w10 F.length t19 W) (fun t19 _ => F.length - (intOf t19).toNat)
  case atStart => exact HA0.out
  case round =>
    obtain ⟨i, hi, rfl, hk⟩ := hrel
    have HKr := Lib.hid hk
    obtain ⟨wo, rfl⟩ : ∃ wo : World, wo = wr := ⟨_, rfl⟩
    clear hk HA0
    by_cases hlt : i < F.length
    · obtain ⟨_, p1, _⟩ := (S1.out.kept HKr.out).at_ hlt
      obtain ⟨_, p2, _⟩ := (S2.out.kept HKr.out).at_ hlt
      obtain ⟨_, p3, _⟩ := (S3.out.kept HKr.out).at_ hlt
      obtain ⟨_, p4, _⟩ := (S4.out.kept HKr.out).at_ hlt
      obtain ⟨hd3, hd4⟩ := HFOUR.out.dist i
      have i0 : (i : Int) < (F.length : Int) := by omega
      obtain ⟨DM, hDM⟩ : ∃ DM, DM = if d2 i < d1 i then d2 i else d1 i := ⟨_, rfl⟩
      rw [← hDM] at hd3 hd4
      rw [hd3] at p3
      rw [hd4] at p4
      generalize d1 i = D1 at *
      generalize d2 i = D2 at *
      have HDM := Lib.hid hDM
      clear hd3 hd4 hDM
      go_upto_if 111 with (fail)
      go_cut [20] (fun t20 W => t20 = .int .u32 (DM : Int) ∧ W = wo)
      case first =>
        by_cases hlt2 : D2 < D1
        · have hlt3 : (D2 : Int) < (D1 : Int) := by omega
          obtain rfl : DM = D2 := by have := HDM.out; rw [if_pos hlt2] at this; exact this
          clear HDM
          go_wp2_with fail
          go_meet
          exact ⟨rfl, rfl⟩
        · have hlt3 : ¬ (D2 : Int) < (D1 : Int) := by omega
          obtain rfl : DM = D1 := by have := HDM.out; rw [if_neg hlt2] at this; exact this
          clear HDM
          go_wp2_with fail
          go_meet
          exact ⟨rfl, rfl⟩
      case rest =>
        obtain ⟨rfl, rfl⟩ := hcut
        clear p1 p2 HDM
        go_wp2_with fail
        refine (agree wc F L1 L2 L3 L4 E1 E2 E3 E4 _ _ _ _ _ _ _ _ i b1 hn5 hlt hb3 (S1.out.kept HKr.out) (S2.out.kept HKr.out) (S3.out.kept HKr.out) (S4.out.kept HKr.out) (HFOUR.out.union i b1)).mono ?_
        rintro e w11 ⟨rfl, k⟩
        have HK11 := Lib.hid (HKr.out.trans k)
        clear k p3 p4
        go_wp2_with fail
        refine (agree w11 F L1 L2 L3 L4 E1 E2 E3 E4 _ _ _ _ _ _ _ _ i b2 hn5 hlt hb4 (S1.out.kept HK11.out) (S2.out.kept HK11.out) (S3.out.kept HK11.out) (S4.out.kept HK11.out) (HFOUR.out.union i b2)).mono ?_
        rintro e w12 ⟨rfl, k⟩
        have HK12 := Lib.hid (HK11.out.trans k)
        clear k HK11 HKr
        obtain ⟨_, _, l3⟩ := (S3.out.kept HK12.out).at_ hlt
        obtain ⟨_, _, l4⟩ := (S4.out.kept HK12.out).at_ hlt
        obtain ⟨bf, off, ea, _, _, _, _, _, _, _, l0, _⟩ := (HF10.out.kept HK12.out).at_ hlt
        subst ea
        generalize (fl F i).live = lv at *
        have hlv : (lv != lv) = false := by simp
        go_wp2_with fail
        go_quiet (fail)
        go_wp2_with fail
        clear l3 l4 l0 hlv
        have HB0 : Hid (LBit w10 (.int .i64 0) (w12.drewN nq)) := Lib.hid ⟨0, by omega, rfl, HK12.out.drewN nq⟩
        generalize w12.drewN nq = w13 at *
        clear HK12
        go_loopw [21] (fun t21 W => LBit w10 t21 W) (fun t21 _ => 256 - (intOf t21).toNat)
        case atStart => exact HB0.out
        case round =>
          obtain ⟨b, hb, rfl, hk⟩ := hrel
          have HKr := Lib.hid hk
          obtain ⟨wo, rfl⟩ : ∃ wo : World, wo = wr := ⟨_, rfl⟩
          clear hk HB0
          by_cases hlt2 : b < 256
          · have i2 : (b : Int) < 256 := by omega
            by_cases q1 : b = b1
            · have t1 : ((b : Int) == (b1 : Int)) = true := by simp; omega
              clear q1
              go_wp2_with fail
              go_roundw
              case rel => exact ⟨b + 1, by omega, by go_num, HKr.out⟩
              case measure => simp [intOf]; omega
            by_cases q2 : b = b2
            · have t1 : ((b : Int) == (b1 : Int)) = false := by simp; omega
              have t2 : ((b : Int) == (b2 : Int)) = true := by simp; omega
              clear q1 q2
              go_wp2_with fail
              go_roundw
              case rel => exact ⟨b + 1, by omega, by go_num, HKr.out⟩
              case measure => simp [intOf]; omega
            have t1 : ((b : Int) == (b1 : Int)) = false := by simp; omega
            have t2 : ((b : Int) == (b2 : Int)) = false := by simp; omega
            obtain ⟨z3, z4⟩ := HFOUR.out.off i b q1 q2
            have c3 := Lib.hid (fun W (k : Kept wo W) => hasBit W (E3 i) b (e3 i) hlt2 (((S3.out.kept HKr.out).bits i hlt).kept k))
            have c4 := Lib.hid (fun W (k : Kept wo W) => hasBit W (E4 i) b (e4 i) hlt2 (((S4.out.kept HKr.out).bits i hlt).kept k))
            obtain ⟨m3, _, _⟩ := (S3.out.kept HKr.out).at_ hlt
            obtain ⟨m4, _, _⟩ := (S4.out.kept HKr.out).at_ hlt
            have U3 : IntKind.u64.wrap (b : Int) = (b : Int) := by rw [IntKind.wrap_u64]; omega
            rw [z3] at c3
            rw [z4] at c4
            generalize E3 i = g3 at *
            generalize E4 i = g4 at *
            clear z3 z4 q1 q2
            go_wp2_with fail
            refine (c3.out wo (Kept.refl _)).mono ?_
            rintro e w14 ⟨rfl, k⟩
            have K14 := Lib.hid k
            replace m4 := k.cell m4
            clear k m3
            go_wp2_with fail
            refine (c4.out w14 K14.out).mono ?_
            rintro e w15 ⟨rfl, k⟩
            have K15 := Lib.hid (HKr.out.trans (K14.out.trans k))
            clear k m4
            go_wp2_with fail
            go_roundw
            case rel => exact ⟨b + 1, by omega, by go_num, K15.out⟩
            case measure => simp [intOf]; omega
          · obtain rfl : b = 256 := by omega
            go_wp2_with fail
            go_roundw
            case rel => exact ⟨i + 1, by omega, by go_num, HKr.out⟩
            case measure => simp [intOf]; omega
    · obtain rfl : i = F.length := by omega
      have HE := Lib.hid (HK.out.trans HKr.out)
      go_wp2_with fail
      go_ret
      exact ⟨rfl, HE.out⟩
end Go.Proofs.Ytgnccfofhcbjjaa.lk
