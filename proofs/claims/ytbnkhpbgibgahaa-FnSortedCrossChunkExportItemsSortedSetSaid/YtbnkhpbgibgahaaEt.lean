/-
  zzSortEntries over this seat's program: the row comes back sorted by the law's own total order, a permutation of what it was.
  Conditions: at most 65536 entries.
-/
import Derived.Test.YtbnkhpbgibgahaaEs
import Derived.StillTailTactics
import Derived.Deep.CutBlock
import Derived.Deep.CutRange
import Derived.Deep.MidRow
namespace Go.Proofs.Ytbnkhpbgibgahaa.es
open Go.ChangeShapes Go.WideShapes Go.ChangeAt Go.RowKit
open kit ms fl

def Mg (w : World) (g b n : Nat) (X : List En) (wd lo mid hi : Nat) (t u v : Value) (W : World) : Prop :=
  ∃ (i j k : Nat) (B : List En), t = .int .i64 (i : Int) ∧ u = .int .i64 (j : Int) ∧ v = .int .i64 (k : Int) ∧ lo ≤ i ∧ i ≤ mid ∧ mid ≤ j ∧ j ≤ hi ∧ k + mid = i + j ∧ MI X B wd k i mid j hi ∧ Sr w g b n W X B
/-- .. one of the two is used up -/
def Mg1 (w : World) (g b n : Nat) (X : List En) (wd lo mid hi : Nat) (t u v : Value) (W : World) : Prop :=
  ∃ (i j k : Nat) (B : List En), t = .int .i64 (i : Int) ∧ u = .int .i64 (j : Int) ∧ v = .int .i64 (k : Int) ∧ lo ≤ i ∧ i ≤ mid ∧ mid ≤ j ∧ j ≤ hi ∧ k + mid = i + j ∧ (mid ≤ i ∨ hi ≤ j) ∧ MI X B wd k i mid j hi ∧ Sr w g b n W X B
/-- .. the left one is -/
def Mg2 (w : World) (g b n : Nat) (X : List En) (wd lo mid hi : Nat) (t u v : Value) (W : World) : Prop :=
  ∃ (i j k : Nat) (B : List En), t = .int .i64 (i : Int) ∧ u = .int .i64 (j : Int) ∧ v = .int .i64 (k : Int) ∧ i = mid ∧ mid ≤ j ∧ j ≤ hi ∧ k + mid = i + j ∧ MI X B wd k i mid j hi ∧ Sr w g b n W X B
def OL (w : World) (g b n : Nat) (X : List En) (wd : Nat) (t : Value) (W : World) : Prop :=
  ∃ (lo : Nat) (B : List En), t = .int .i64 (lo : Int) ∧ lo ≤ n + 2 * wd ∧ ML X B wd lo ∧ Sr w g b n W X B
def OW (w : World) (g b n : Nat) (X0 : List En) (t : Value) (W : World) : Prop :=
  ∃ (wd : Nat) (X B : List En), t = .int .i64 (wd : Int) ∧ 1 ≤ wd ∧ wd ≤ 2 * n ∧ MS X0 X wd ∧ Sr w g b n W X B
def Sorted (w : World) (g : Nat) (X : List En) (e : Ending) (w' : World) : Prop :=
  e = .returned (.tuple #[]) ∧ ∃ Y, Y.Perm X ∧ Y.Pairwise (fun a c => ele a c = true) ∧ Blk w' g 31 (flat Y) ∧ Turn w w' (fun k => k = g)

set_option maxRecDepth 100000 in
set_option maxHeartbeats 8000000 in
theorem sortE (w : World) (g n c : Nat) (X : List En) (h : Blk w g 31 (flat X)) (hl : X.length = n) (hn : n ≤ 65536) : Calls Try.prog 15 #[.slice (some ⟨g, 0, none⟩) n c] w (Sorted w g X) := by
  by_cases h2 : n < 2
  · have hs : Sorted w g X (.returned (.tuple #[])) w := by
      refine ⟨rfl, X, List.Perm.refl _, ?_, h, Turn.refl _ _⟩
      match X, hl with
      | [], _ => exact List.Pairwise.nil
      | [a], _ => exact List.pairwise_singleton _ _
      | a :: b :: r, hl => simp at hl; omega
    have HS := Lib.hid hs
    clear hs h
    have h2i : (n : Int) < 2 := by omega
    go_enter Try.func15, Try.ntmps15
    go_wp2_with fail
    go_end0
    exact HS.out
  have HMK := Lib.hid (fun W => makeE n hn W)
  obtain ⟨q, hq⟩ : ∃ q, q = w.heap.size := ⟨_, rfl⟩
  have hw0 : Sr w g q n (w.alloc (.cells (flat (List.replicate n ⟨0, 0, 0⟩)).toArray 31)) X (List.replicate n ⟨0, 0, 0⟩) := by
    refine ⟨(Turn.refl w _).alloc _, h.alloc _, ?_, hl, by simp, by omega, h.lt⟩
    rw [hq]
    exact Blk.new w 31 _
  have H0 : Hid (OW w g q n X (.int .i64 1) (w.alloc (.cells (flat (List.replicate n ⟨0, 0, 0⟩)).toArray 31))) := Lib.hid ⟨1, X, _, rfl, by omega, by omega, MS.start X, hw0⟩
  have HMK2 := HMK.out w
  rw [← hq] at HMK2
  have h2i : ¬ (n : Int) < 2 := by omega
  clear hw0 h HMK hq hl
  generalize w.alloc (.cells (flat (List.replicate n ⟨0, 0, 0⟩)).toArray 31) = wa at *
  go_enter Try.func15, Try.ntmps15
  go_wp2_with fail
  clear HMK2
  go_loopw [4, 5, 6, 7, 8, 9, 10] (fun t _ _ _ _ _ _ W => OW w g q n X t W) (fun t _ _ _ _ _ _ _ => 2 * n - (intOf t).toNat)
  case atStart => exact H0.out
  case round =>
    obtain ⟨wd, X1, B1, rfl, w1, w2, hms, hsr⟩ := hrel
    have HMS := Lib.hid hms
    have HS1 := Lib.hid hsr
    clear hms hsr H0
    by_cases hlt : wd < n
    · have H1 : Hid (OL w g q n X1 wd (.int .i64 0) wr) := Lib.hid ⟨0, B1, rfl, by omega, ML.start (by rw [HS1.out.lb, HS1.out.lx]), HS1.out⟩
      clear HS1
      go_wp2_with fail
      go_loopw [5, 6, 7, 8, 9, 10] (fun t _ _ _ _ _ W => OL w g q n X1 wd t W) (fun t _ _ _ _ _ _ => n - (intOf t).toNat)
      case atStart => exact H1.out
      case round =>
        obtain ⟨lo, B2, rfl, lo1, hml, hsr⟩ := hrel
        have HML := Lib.hid hml
        have HS2 := Lib.hid hsr
        clear hml hsr H1
        obtain ⟨wo, hwo⟩ : ∃ wo, wo = wr := ⟨_, rfl⟩
        subst hwo
        by_cases hlo : lo < n
        · obtain ⟨mid, hmid⟩ : ∃ mid, mid = min (lo + wd) n := ⟨_, rfl⟩
          obtain ⟨hi, hhi⟩ : ∃ hi, hi = min (mid + wd) n := ⟨_, rfl⟩
          have HMI := Lib.hid (HML.out.open_ (mid := mid) (hi := hi) (by omega) (by rw [HS2.out.lx]; exact hlo) (by rw [HS2.out.lx]; exact hmid) (by rw [HS2.out.lx]; exact hhi))
          have b1 : lo < mid := by omega
          have b2 : mid ≤ hi := by omega
          have b3 : hi ≤ n := by omega
          have HEND : Hid (hi = lo + 2 * wd ∨ (hi = n ∧ n ≤ lo + 2 * wd)) := Lib.hid (by omega)
          have HMD : Hid (mid = min (lo + wd) n) := Lib.hid hmid
          have HHI : Hid (hi = min (mid + wd) n) := Lib.hid hhi
          clear hmid hhi HML
          go_upto_if 34 with fail
          go_cut [6] from 22 to 110 (fun t W => t = .int .i64 (mid : Int) ∧ W = wo)
          case first =>
            have hm := HMD.out
            by_cases hc : n < lo + wd
            · have hci : (lo : Int) + (wd : Int) > (n : Int) := by omega
              have hm2 : mid = n := by omega
              clear hm
              subst hm2
              go_wp2_with fail
              go_meet
              exact ⟨rfl, rfl⟩
            · have hci : ¬ (lo : Int) + (wd : Int) > (n : Int) := by omega
              have hm2 : mid = lo + wd := by omega
              clear hm
              go_wp2_with fail
              go_meet
              exact ⟨by rw [hm2]; go_num, rfl⟩
          case rest =>
            obtain ⟨rfl, hwc⟩ := hcut
            obtain rfl := hwc.symm
            go_upto_if 41 with fail
            go_cut [7] from 22 to 110 (fun t W => t = .int .i64 (hi : Int) ∧ W = wo)
            case first =>
              have hm := HHI.out
              by_cases hc : n < mid + wd
              · have hci : (mid : Int) + (wd : Int) > (n : Int) := by omega
                have hm2 : hi = n := by omega
                clear hm
                subst hm2
                go_wp2_with fail
                go_meet
                exact ⟨rfl, rfl⟩
              · have hci : ¬ (mid : Int) + (wd : Int) > (n : Int) := by omega
                have hm2 : hi = mid + wd := by omega
                clear hm
                go_wp2_with fail
                go_meet
                exact ⟨by rw [hm2]; go_num, rfl⟩
            case rest =>
              obtain ⟨rfl, hwc⟩ := hcut
              obtain rfl := hwc.symm
              clear HMD HHI
              have H3 : Hid (Mg w g q n X1 wd lo mid hi (.int .i64 (lo : Int)) (.int .i64 (mid : Int)) (.int .i64 (lo : Int)) wo) := Lib.hid ⟨lo, mid, lo, B2, rfl, rfl, rfl, by omega, by omega, by omega, by omega, by omega, HMI.out, HS2.out⟩
              clear HMI HS2
              go_upto_block 4 with fail
              go_cut [8, 9, 10] from 22 to 110 (fun t u v W => Hid (Mg1 w g q n X1 wd lo mid hi t u v W))
              case first =>
                go_wp2_with fail
                go_loopw [8, 9, 10] (fun t u v W => Mg w g q n X1 wd lo mid hi t u v W) (fun t u _ _ => mid + hi - (intOf t).toNat - (intOf u).toNat)
                case atStart => exact H3.out
                case round =>
                  obtain ⟨i, j, k, B, rfl, rfl, rfl, i1, i2, j1, j2, hk, hmi, hsr⟩ := hrel
                  have HMI := Lib.hid hmi
                  have HSR := Lib.hid hsr
                  have HKK := Lib.hid hk
                  have kn : k < n ∨ ¬ (i < mid ∧ j < hi) := by omega
                  clear hmi hsr H3 hk
                  by_cases hi1 : i < mid
                  · by_cases hj1 : j < hi
                    · obtain ⟨x, hx, x0, x1, x2⟩ := HSR.out.at_ (j := i) (by omega)
                      obtain ⟨y, hy, y0, y1, y2⟩ := HSR.out.at_ (j := j) (by omega)
                      have kn2 : k < n := by omega
                      have HX := Lib.hid hx
                      have HY := Lib.hid hy
                      have ii : (i : Int) < (n : Int) := by omega
                      have jj : (j : Int) < (n : Int) := by omega
                      have i0 : (0 : Int) ≤ (i : Int) := by omega
                      have j0 : (0 : Int) ≤ (j : Int) := by omega
                      have kk : (k : Int) < (n : Int) := by omega
                      have k0 : (0 : Int) ≤ (k : Int) := by omega
                      have hbv : ∃ bv, elt y x = bv := ⟨_, rfl⟩
                      obtain ⟨bv, hbv⟩ := hbv
                      have HBV := Lib.hid hbv
                      have HC17 := Lib.hid (fun W => less17 y x W)
                      rw [hbv] at HC17
                      unfold entV at HC17
                      obtain ⟨xs, xr, xn⟩ := x
                      obtain ⟨ys, yr, yn⟩ := y
                      dsimp only at x0 x1 x2 y0 y1 y2 HC17
                      clear hx hy kn hbv
                      go_upto_region 19 with fail
                      go_still_tail 8, (by kernel_rfl)
                      change wpList _ _ _ _ _ wr.drew
                      have HSR2 := Lib.hid (HSR.out.kept (Kept.refl wr).drew)
                      clear x0 x1 x2 y0 y1 y2 HSR
                      generalize wr.drew = w2 at *
                      cases bv
                      · go_upto_if 62 with (go_at_call 17; refine (HC17.out _).mono ?_; rintro e w3 ⟨rfl, hk3⟩; have HSR3 := Lib.hid (HSR2.out.kept hk3); clear hk3)
                        obtain ⟨x', hx', x0, x1, x2⟩ := HSR3.out.at_ (j := i) (by omega)
                        obtain rfl : x' = ⟨xs, xr, xn⟩ := Option.some.inj (hx'.symm.trans HX.out)
                        dsimp only at x0 x1 x2
                        obtain ⟨v0, v1, v2, s0, s1, s2, f0, f1, f2⟩ := HSR3.out.spot (k := k) kn2
                        have HP := Lib.hid (HSR3.out.put kn2 ⟨xs, xr, xn⟩)
                        dsimp only at HP
                        have HM := Lib.hid (HMI.out.left hi1 hj1 (by rw [HSR3.out.lx]; exact kn2) HX.out HY.out HBV.out)
                        clear hx' HC17 HSR2
                        go_wp2_with fail
                        have HN : Hid (Mg w g q n X1 wd lo mid hi (.int .i64 ((i : Int) + 1)) (.int .i64 (j : Int)) (.int .i64 ((k : Int) + 1)) (((w3.setCell ⟨q, k * 3, none⟩ (.int .u32 xs)).setCell ⟨q, k * 3 + 1, none⟩ (.int .u32 xr)).setCell ⟨q, k * 3 + 2, none⟩ (.int .u32 xn))) := Lib.hid ⟨i + 1, j, k + 1, _, by go_num, rfl, by go_num, by omega, by omega, by omega, by omega, by have := HKK.out; omega, HM.out, HP.out⟩
                        clear s0 s1 s2 f0 f1 f2 x0 x1 x2 HP HM HSR3 HMI
                        go_roundw
                        case rel => first | exact HN.out | ((repeat apply Exists.intro); exact ⟨HN.out, rfl⟩)
                        case measure => simp [intOf] <;> omega
                      · go_upto_if 62 with (go_at_call 17; refine (HC17.out _).mono ?_; rintro e w3 ⟨rfl, hk3⟩; have HSR3 := Lib.hid (HSR2.out.kept hk3); clear hk3)
                        obtain ⟨y', hy', x0, x1, x2⟩ := HSR3.out.at_ (j := j) (by omega)
                        obtain rfl : y' = ⟨ys, yr, yn⟩ := Option.some.inj (hy'.symm.trans HY.out)
                        dsimp only at x0 x1 x2
                        obtain ⟨v0, v1, v2, s0, s1, s2, f0, f1, f2⟩ := HSR3.out.spot (k := k) kn2
                        have HP := Lib.hid (HSR3.out.put kn2 ⟨ys, yr, yn⟩)
                        dsimp only at HP
                        have HM := Lib.hid (HMI.out.right hi1 hj1 (by rw [HSR3.out.lx]; exact kn2) HX.out HY.out HBV.out)
                        clear hy' HC17 HSR2
                        go_wp2_with fail
                        have HN : Hid (Mg w g q n X1 wd lo mid hi (.int .i64 (i : Int)) (.int .i64 ((j : Int) + 1)) (.int .i64 ((k : Int) + 1)) (((w3.setCell ⟨q, k * 3, none⟩ (.int .u32 ys)).setCell ⟨q, k * 3 + 1, none⟩ (.int .u32 yr)).setCell ⟨q, k * 3 + 2, none⟩ (.int .u32 yn))) := Lib.hid ⟨i, j + 1, k + 1, _, rfl, by go_num, by go_num, by omega, by omega, by omega, by omega, by have := HKK.out; omega, HM.out, HP.out⟩
                        clear s0 s1 s2 f0 f1 f2 x0 x1 x2 HP HM HSR3 HMI
                        go_roundw
                        case rel => first | exact HN.out | ((repeat apply Exists.intro); exact ⟨HN.out, rfl⟩)
                        case measure => simp [intOf] <;> omega
                    · have HN : Hid (Mg1 w g q n X1 wd lo mid hi (.int .i64 (i : Int)) (.int .i64 (j : Int)) (.int .i64 (k : Int)) wr) := Lib.hid ⟨i, j, k, B, rfl, rfl, rfl, i1, i2, j1, j2, HKK.out, by omega, HMI.out, HSR.out⟩
                      clear HMI HSR kn
                      go_wp2_with fail
                      go_meet
                      exact HN
                  · have HN : Hid (Mg1 w g q n X1 wd lo mid hi (.int .i64 (i : Int)) (.int .i64 (j : Int)) (.int .i64 (k : Int)) wr) := Lib.hid ⟨i, j, k, B, rfl, rfl, rfl, i1, i2, j1, j2, HKK.out, by omega, HMI.out, HSR.out⟩
                    clear HMI HSR kn
                    go_wp2_with fail
                    go_meet
                    exact HN
              case rest =>
                obtain ⟨i, j, k, B, rfl, rfl, rfl, i1, i2, j1, j2, hk, hd, hmi, hsr⟩ := hcut.out
                have H4 : Hid (Mg1 w g q n X1 wd lo mid hi (.int .i64 (i : Int)) (.int .i64 (j : Int)) (.int .i64 (k : Int)) wc) := hcut
                clear hk hd hmi hsr hcut H3
                obtain ⟨wp, hwp⟩ : ∃ wp, wp = wc := ⟨_, rfl⟩
                obtain rfl := hwp.symm
                go_upto_block 6 with fail
                go_cut [8, 9, 10] from 22 to 110 (fun t u v W => Hid (Mg2 w g q n X1 wd lo mid hi t u v W))
                case first =>
                  clear i1 i2 j1 j2
                  go_wp2_with fail
                  go_loopw [8, 10] (fun t v W => Mg1 w g q n X1 wd lo mid hi t (.int .i64 (j : Int)) v W) (fun t _ _ => mid - (intOf t).toNat)
                  case atStart => exact H4.out
                  case round =>
                    obtain ⟨i, j9, k, B, rfl, hj9, rfl, i1, i2, j1, j2, hk, hd, hmi, hsr⟩ := hrel
                    obtain rfl : j = j9 := by
                      simp only [Value.int.injEq, true_and] at hj9
                      omega
                    clear hj9
                    have HMI := Lib.hid hmi
                    have HSR := Lib.hid hsr
                    have HKK := Lib.hid hk
                    have HD := Lib.hid hd
                    have kn : k < n ∨ ¬ i < mid := by omega
                    clear hmi hsr H4 hk hd
                    by_cases hi1 : i < mid
                    · have kn2 : k < n := by omega
                      have hj3 : hi ≤ j := by have := HD.out; omega
                      obtain ⟨x, hx, x0, x1, x2⟩ := HSR.out.at_ (j := i) (by omega)
                      have HM := Lib.hid (HMI.out.lrest hi1 hj3 (by rw [HSR.out.lx]; exact kn2) hx)
                      have HP := Lib.hid (HSR.out.put kn2 x)
                      obtain ⟨xs, xr, xn⟩ := x
                      dsimp only at x0 x1 x2 HP
                      obtain ⟨v0, v1, v2, s0, s1, s2, f0, f1, f2⟩ := HSR.out.spot (k := k) kn2
                      have ii : (i : Int) < (n : Int) := by omega
                      have i0 : (0 : Int) ≤ (i : Int) := by omega
                      have kk : (k : Int) < (n : Int) := by omega
                      have k0 : (0 : Int) ≤ (k : Int) := by omega
                      have HN : Hid (Mg1 w g q n X1 wd lo mid hi (.int .i64 ((i : Int) + 1)) (.int .i64 (j : Int)) (.int .i64 ((k : Int) + 1)) (((wr.setCell ⟨q, k * 3, none⟩ (.int .u32 xs)).setCell ⟨q, k * 3 + 1, none⟩ (.int .u32 xr)).setCell ⟨q, k * 3 + 2, none⟩ (.int .u32 xn))) := Lib.hid ⟨i + 1, j, k + 1, _, by go_num, rfl, by go_num, by omega, by omega, by omega, by omega, by have := HKK.out; omega, .inr hj3, HM.out, HP.out⟩
                      clear hx kn HM HP HMI HSR
                      go_wp2_with fail
                      clear s0 s1 s2 f0 f1 f2 x0 x1 x2
                      go_roundw
                      case rel => first | exact HN.out | ((repeat apply Exists.intro); exact ⟨HN.out, rfl⟩)
                      case measure => simp [intOf] <;> omega
                    · have HN : Hid (Mg2 w g q n X1 wd lo mid hi (.int .i64 (i : Int)) (.int .i64 (j : Int)) (.int .i64 (k : Int)) wr) := Lib.hid ⟨i, j, k, B, rfl, rfl, rfl, by omega, j1, j2, HKK.out, HMI.out, HSR.out⟩
                      clear HMI HSR kn
                      go_wp2_with fail
                      go_meet
                      exact HN
                case rest =>
                  obtain ⟨i, j, k, B, rfl, rfl, rfl, i3, j1, j2, hk, hmi, hsr⟩ := hcut.out
                  have H5 : Hid (Mg2 w g q n X1 wd lo mid hi (.int .i64 (i : Int)) (.int .i64 (j : Int)) (.int .i64 (k : Int)) wc) := hcut
                  clear hk hmi hsr hcut H4 i3 j1 j2
                  obtain ⟨wp2, hwp⟩ : ∃ wp2, wp2 = wc := ⟨_, rfl⟩
                  obtain rfl := hwp.symm
                  go_wp2_with fail
                  go_loopw [9, 10] (fun u v W => Mg2 w g q n X1 wd lo mid hi (.int .i64 (i : Int)) u v W) (fun u _ _ => hi - (intOf u).toNat)
                  case atStart => exact H5.out
                  case round =>
                    obtain ⟨i9, j, k, B, hi9, rfl, rfl, i3, j1, j2, hk, hmi, hsr⟩ := hrel
                    obtain rfl : i = i9 := by
                      simp only [Value.int.injEq, true_and] at hi9
                      omega
                    clear hi9
                    have HMI := Lib.hid hmi
                    have HSR := Lib.hid hsr
                    have HKK := Lib.hid hk
                    have HI3 := Lib.hid i3
                    have kn : k < n ∨ ¬ j < hi := by omega
                    have hke : j = hi → k = hi := by omega
                    clear hmi hsr H5 hk i3
                    by_cases hj1 : j < hi
                    · have kn2 : k < n := by omega
                      obtain ⟨x, hx, x0, x1, x2⟩ := HSR.out.at_ (j := j) (by omega)
                      have HM := Lib.hid (HMI.out.rrest (by have := HI3.out; omega) hj1 (by rw [HSR.out.lx]; exact kn2) hx)
                      have HP := Lib.hid (HSR.out.put kn2 x)
                      obtain ⟨xs, xr, xn⟩ := x
                      dsimp only at x0 x1 x2 HP
                      obtain ⟨v0, v1, v2, s0, s1, s2, f0, f1, f2⟩ := HSR.out.spot (k := k) kn2
                      have ii : (j : Int) < (n : Int) := by omega
                      have i0 : (0 : Int) ≤ (j : Int) := by omega
                      have kk : (k : Int) < (n : Int) := by omega
                      have k0 : (0 : Int) ≤ (k : Int) := by omega
                      have HN : Hid (Mg2 w g q n X1 wd lo mid hi (.int .i64 (i : Int)) (.int .i64 ((j : Int) + 1)) (.int .i64 ((k : Int) + 1)) (((wr.setCell ⟨q, k * 3, none⟩ (.int .u32 xs)).setCell ⟨q, k * 3 + 1, none⟩ (.int .u32 xr)).setCell ⟨q, k * 3 + 2, none⟩ (.int .u32 xn))) := Lib.hid ⟨i, j + 1, k + 1, _, rfl, by go_num, by go_num, HI3.out, by omega, by omega, by have := HKK.out; omega, HM.out, HP.out⟩
                      clear hx kn HM HP HMI HSR hke
                      go_wp2_with fail
                      clear s0 s1 s2 f0 f1 f2 x0 x1 x2
                      go_roundw
                      case rel => first | exact HN.out | ((repeat apply Exists.intro); exact ⟨HN.out, rfl⟩)
                      case measure => simp [intOf] <;> omega
                    · have hjh : j = hi := by omega
                      have hkh : k = hi := hke hjh
                      have HMC : Hid (ML X1 B wd (lo + 2 * wd)) := Lib.hid (by
                        have := HMI.out
                        rw [hkh] at this
                        exact this.close (by have := HI3.out; omega) (by omega) (by rw [HSR.out.lx]; exact HEND.out))
                      have HN : Hid (OL w g q n X1 wd (.int .i64 ((lo : Int) + 2 * (wd : Int))) wr) := Lib.hid ⟨lo + 2 * wd, B, by congr 1, by omega, HMC.out, HSR.out⟩
                      clear hke hjh hkh kn HMI HSR HMC
                      go_wp2_with fail
                      go_roundw
                      case rel => first | exact HN.out | ((repeat apply Exists.intro); exact ⟨HN.out, rfl⟩)
                      case measure => simp [intOf] <;> omega
        · have hB : B2 = mpass ele wd X1 := HML.out.done (by rw [HS2.out.lx]; omega)
          have HCP : Hid (∃ w', (∀ ty, (Builtin.copy_ #[27, 27] ty #[.slice (some ⟨g, 0, none⟩) n c, .slice (some ⟨q, 0, none⟩) n n]).run Try.prog wo = .ok (goInt n) w') ∧ OW w g q n X (.int .i64 ((wd : Int) * 2)) w') := Lib.hid (by
            obtain ⟨w', h1, h2, h3⟩ := run_copy3 wo 0 g q n c n X1 B2 HS2.out.bx HS2.out.bb HS2.out.lx HS2.out.lb
            refine ⟨w', fun ty => h1, 2 * wd, B2, B2, by congr 1; omega, by omega, by omega, ?_, HS2.out.copied h2 h3⟩
            rw [hB]
            exact HMS.out.pass (by omega))
          obtain ⟨w', hcp, how⟩ := HCP.out
          have HN := Lib.hid how
          clear how HCP hB HML HS2
          go_wp2_with fail
          go_roundw
          case rel => first | exact HN.out | ((repeat apply Exists.intro); exact ⟨HN.out, rfl⟩)
          case measure => simp [intOf] <;> omega
    · have HF : Hid (Sorted w g X (.returned (.tuple #[])) wr) := Lib.hid ⟨rfl, X1, HMS.out.perm, HMS.out.done (by rw [HS1.out.lx]; omega), HS1.out.bx, HS1.out.turn⟩
      clear HMS HS1
      go_wp2_with fail
      go_end0
      exact HF.out
end Go.Proofs.Ytbnkhpbgibgahaa.es
