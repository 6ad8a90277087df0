/-
  FnMarkFileLiveMatchesLeastFixpoint's walk over this seat's program.
  Conditions: the files are readable.
-/
import Derived.Test.YtgnccfofhcbjjaaLg
import Derived.Test.YtgnccfofhcbjjaaLy
namespace Go.Proofs.Ytgnccfofhcbjjaa.lk
open Go.ChangeShapes Go.WideShapes Go.ChangeAt Go.RowKit
open kit dfs dst

def LawTrueL (w : World) (e : Ending) (w' : World) : Prop := e = .returned (.bool true) ∧ Kept w w'
def LAi (w : World) (n : Nat) (t : Value) (W : World) : Prop := ∃ i : Nat, i ≤ n ∧ t = .int .i64 (i : Int) ∧ Kept w W
theorem bool_ne_self (b : Bool) : (b != b) = false := by cases b <;> rfl
set_option maxRecDepth 100000 in
set_option maxHeartbeats 16000000 in
theorem lawLive (w : World) (a : Option Addr) (n c : Nat) (F : Ct) (s : Nat) (g : Bool) (h : FilesC w (.slice a n c) F) (hF : F.length = n) (hm : n ≤ 9223372036854775807) (hs : s ≤ 4294967295) :
    Calls Try.prog 4 #[.slice a n c, .int .u32 (s : Int), .bool g] w (LawTrueL w) := by
  have HF := Lib.hid h
  have HN := Lib.hid hF
  clear h hF
  have Ws : IntKind.u64.wrap (s : Int) = (s : Int) := by rw [IntKind.wrap_u64]; omega
  have Wn : IntKind.u64.wrap (n : Int) = (n : Int) := by rw [IntKind.wrap_u64]; omega
  go_enter Try.func4, Try.ntmps4
  go_wp2_with fail
  refine (bytes13 w a n c F s g HF.out HN.out hm).mono ?_
  rintro e w1 ⟨⟨x0, rfl, hx0⟩, rfl⟩
  have HX0 := Lib.hid hx0
  clear hx0
  cases x0
  · go_wp2_with fail
    go_ret
    exact ⟨rfl, Kept.refl _⟩
  have hn1 : n ≤ 1048576 := by have := (HX0.out (by first | rfl | trivial)).1; have := HN.out; omega
  go_wp2_with fail
  refine (size w a n c F HF.out HN.out hn1 (by have := (HX0.out (by first | rfl | trivial)).2; have e := HN.out; rw [e] at this; exact this)).mono ?_
  rintro e w1 ⟨⟨x, rfl, hx⟩, rfl⟩
  have HX := Lib.hid hx
  clear hx HX0
  by_cases hx7 : ¬ x ≤ 1048576
  · go_wp2_with fail
    go_ret
    exact ⟨rfl, Kept.refl _⟩
  have hx6 : x ≤ 1048576 := by omega
  clear hx7
  have hn2 := (HX.out hx6).1
  have HL := Lib.hid (HX.out hx6).2
  clear HX
  by_cases hn3 : ¬ n ≤ 4096
  · have hn4 : (4096 : Int) < (n : Int) := by omega
    go_wp2_with fail
    go_ret
    exact ⟨rfl, Kept.refl _⟩
  have hn4 : ¬ (4096 : Int) < (n : Int) := by omega
  by_cases hsn : ¬ s < n
  · have hsn2 : (n : Int) ≤ (s : Int) := by omega
    go_wp2_with fail
    go_ret
    exact ⟨rfl, Kept.refl _⟩
  have hsn2 : ¬ (n : Int) ≤ (s : Int) := by omega
  go_wp2_with fail
  refine (wellFormed w a n c F HF.out HN.out hn2 HL.out).mono ?_
  rintro e w1 ⟨⟨x1, rfl, hx1⟩, k1⟩
  have HX1 := Lib.hid hx1
  have K1 := Lib.hid k1
  clear hx1 k1
  cases x1
  · go_wp2_with fail
    go_ret
    exact ⟨rfl, K1.out⟩
  have HOK := Lib.hid (HX1.out (by first | rfl | trivial))
  clear HX1
  go_wp2_with fail
  refine (clone w1 a n c F (HF.out.kept K1.out) HN.out hn2 HL.out).mono ?_
  rintro e w2 ⟨⟨v, rfl, hv⟩, k2⟩
  obtain ⟨a2, c2, rfl, hc2, hc3, hc4⟩ := Sl.len hv
  have HF2 := Lib.hid hv
  have K2 := Lib.hid (K1.out.trans k2)
  clear hv k2 HF
  obtain rfl := HN.out
  have HFIT : Hid (Fits F) := Lib.hid ⟨hn2, HL.out, HOK.out⟩
  have hsn3 : s < F.length := by omega
  clear hn3 hsn hn4 hsn2 hx6 hn1 Ws Wn HN
  go_wp2_with fail
  refine (build w2 a2 F.length c2 F false HF2.out rfl hn2 HL.out HOK.out).mono ?_
  rintro e w3 ⟨rfl, J, EB, PB, hbd⟩
  have HB := Lib.hid hbd
  clear hbd
  go_wp2_with fail
  refine (runLive w2 w3 F g J EB PB s HB.out HFIT.out hsn3).mono ?_
  rintro e w4 ⟨rfl, cb, ob, d, hd, hM, hR, k⟩
  have HD := Lib.hid hd
  have HM := Lib.hid hM
  have HR := Lib.hid hR
  have HF4 := Lib.hid (HF2.out.kept k)
  have K4 := Lib.hid (K2.out.trans k)
  clear hd hM hR k HB
  generalize hq : w2.heap.size + 1 = RP at *
  have HRP := Lib.hid hq
  clear hq
  generalize w2.heap.size = LB at *
  go_wp2_with fail
  refine (model w4 a2 c2 F g s HF4.out HFIT.out hsn3).mono ?_
  rintro e w5 ⟨rfl, G, R, hMk, hRr, k⟩
  have HMK := Lib.hid hMk
  have HE : Hid (∀ x, R x = d x) := Lib.hid (fun x => by
    cases e1 : d x
    · cases e2 : R x
      · rfl
      · have := (HD.out x).2 ((hRr x).1 e2); rw [e1] at this; cases this
    · exact (hRr x).2 ((HD.out x).1 e1))
  have HM5 := Lib.hid (HM.out.kept k)
  have HF5 := Lib.hid (HF4.out.kept k)
  have HR5 : Hid (∃ cs, Blk w5 RP 132 cs ∧ ∀ k, k < F.length → cs[k]? = some (.pointer (some ⟨J k, 0, none⟩))) := Lib.hid (by obtain ⟨cs, h1, h2⟩ := HR.out; exact ⟨cs, h1.kept k, h2⟩)
  have K5 := Lib.hid (K4.out.trans k)
  clear hMk hRr k HM HF4 HR K4 HF2 K2 K1 HD HFIT HOK
  generalize hq2 : w4.heap.size + 1 = q2 at *
  have HQ2 := Lib.hid hq2
  clear hq2
  generalize w4.heap.size = q1 at *
  have HA0 : Hid (LAi w5 F.length (.int .i64 0) w5) := Lib.hid ⟨0, Nat.zero_le _, rfl, Kept.refl _⟩
  go_wp2_with fail
  go_loopw [11] (fun t11 W => LAi w5 F.length t11 W) (fun t11 _ => F.length - (intOf t11).toNat)
  case atStart => exact HA0.out
  case round =>
    obtain ⟨i, hi, rfl, hk⟩ := hrel
    have HK := Lib.hid hk
    obtain ⟨wo, rfl⟩ : ∃ wo : World, wo = wr := ⟨_, rfl⟩
    clear hk HA0
    by_cases hlt : i < F.length
    · have hM6 := HM5.out.kept HK.out
      obtain ⟨_, _, _, x0, _⟩ := hM6.file hlt
      have x1 := ((HMK.out.kept HK.out).cellF hlt).1
      rw [HE.out] at x1
      obtain ⟨b, off, ea, _, ra, rc, pa, pc, _, _, _, _, l0, _, _, ⟨hp1, hp2, hp3⟩, _, _⟩ := (HF5.out.kept HK.out).at_ hlt
      subst ea
      have i0 : (0 : Int) ≤ (i : Int) := by omega
      have i1 : (i : Int) < (F.length : Int) := by omega
      have hlv := bool_ne_self (d (.inl i))
      have hnp : (fl F i).parts.length = np F i := rfl
      have hnq : np F i ≤ 262144 := (HL.out i hlt).2.1
      rw [hnp] at l0 hp1
      generalize d (.inl i) = lv at *
      have L0 := Lib.hid l0
      clear hM6 hnp l0 hp3
      go_upto_region 18 with fail
      go_quiet (fail)
      go_wp2_with fail
      clear x0 x1 hlv
      have HB0 : Hid (LAi w5 (np F i) (.int .i64 0) (wo.drewN nq)) := Lib.hid ⟨0, Nat.zero_le _, rfl, HK.out.drewN nq⟩
      have HKO := HK
      have HLN : Hid (∀ W, Kept w5 W → W.cell? ⟨b, off + i * 5 + 4, none⟩ = some (.slice pa (np F i) pc)) := Lib.hid (fun W kk => by
        obtain ⟨b', off', ea', _, ra', rc', pa', pc', _, _, _, _, l0', _⟩ := HF5.out.at_ hlt
        have e1 : b = b' ∧ off = off' := by simpa using ea'
        obtain ⟨rfl, rfl⟩ := e1
        have q1' := HK.out.cell l0'
        rw [L0.out] at q1'
        have := kk.cell l0'
        rw [← Option.some.inj q1'] at this
        exact this)
      generalize wo.drewN nq = w6 at *
      clear HK L0 HKO
      go_loopw [12] (fun t12 W => LAi w5 (np F i) t12 W) (fun t12 _ => np F i - (intOf t12).toNat)
      case atStart => exact HB0.out
      case round =>
        obtain ⟨j, hj, rfl, hk⟩ := hrel
        have HK := Lib.hid hk
        obtain ⟨wp, rfl⟩ : ∃ wp : World, wp = wr := ⟨_, rfl⟩
        clear hk HB0
        have y0 := HLN.out wp HK.out
        by_cases hlt2 : j < np F i
        · have hM6 := HM5.out.kept HK.out
          obtain ⟨p0, _⟩ := hM6.part hlt hlt2
          obtain ⟨rb, hrb⟩ := hM6.jsAll hlt
          have p1 := (hrb wp (Turn.refl _ _)).2.2.1
          obtain ⟨cs, hb1, hb2⟩ := HR5.out
          have p2 : wp.cell? ⟨RP, i, none⟩ = some (.pointer (some ⟨J i, 0, none⟩)) := by rw [(hb1.kept HK.out).cell]; exact hb2 i hlt
          have p3 := (HMK.out.kept HK.out).row hlt
          have p4 := ((HMK.out.kept HK.out).cellP hlt hlt2).1
          rw [HE.out] at p4
          have j0 : (0 : Int) ≤ (j : Int) := by omega
          have j1 : (j : Int) < (np F i : Int) := by omega
          have hlv := bool_ne_self (d (.inr (i, j)))
          generalize d (.inr (i, j)) = lv2 at *
          clear hM6 hrb hb1 hb2
          go_upto_region 23 with fail
          clear y0
          go_quiet (fail)
          go_wp2_with fail
          go_roundw
          case rel => exact ⟨j + 1, by omega, by go_num, HK.out.drewN nq⟩
          case measure => simp [intOf]; omega
        · obtain rfl : j = np F i := by omega
          go_wp2_with fail
          go_roundw
          case rel => exact ⟨i + 1, by omega, by go_num, HK.out⟩
          case measure => simp [intOf]; omega
    · obtain rfl : i = F.length := by omega
      have HX := Lib.hid (K5.out.trans HK.out)
      go_wp2_with fail
      go_ret
      exact ⟨rfl, HX.out⟩
end Go.Proofs.Ytgnccfofhcbjjaa.lk
