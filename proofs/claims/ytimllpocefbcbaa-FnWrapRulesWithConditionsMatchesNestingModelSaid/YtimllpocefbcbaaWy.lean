/-
  The law's walk over this seat's program: it answers true.
  Conditions: the conditions are readable.
-/
import Derived.Test.YtimllpocefbcbaaWx
namespace Go.Proofs.Ytimllpocefbcbaa.wr
open Go.ChangeShapes Go.WideShapes Go.ChangeAt Go.RowKit
open kit

def LawTrue (w : World) (e : Ending) (w' : World) : Prop := e = .returned (.bool true) ∧ Kept w w'
set_option maxRecDepth 100000 in
set_option maxHeartbeats 8000000 in
theorem law (w : World) (x0 : Int) (a : Option Addr) (c : Nat) (F : Cs) (h : CndsC w (.slice a F.length c) F) : Calls Try.prog 3 #[.int .i64 x0, .slice a F.length c] w (LawTrue w) := by
  have H := Lib.hid h
  clear h
  obtain ⟨i9, z9, hi9, hz90, hz91, hz92, hz93⟩ := infoN info9
  obtain ⟨i4, z4, hi4, hz40, hz41, hz42, hz43⟩ := infoN info4
  go_enter Try.func3, Try.ntmps3
  go_wp2_with fail
  refine (zz w x0 a c F H.out).mono ?_
  rintro e w1 ⟨⟨b0, rfl⟩, rfl⟩
  cases b0
  · go_wp2_with fail
    go_ret
    exact ⟨rfl, Kept.refl _⟩
  go_wp2_with fail
  refine (sizeOK w x0 a c F H.out).mono ?_
  rintro e w1 ⟨⟨b1, rfl, hb1⟩, k1⟩
  have HB := Lib.hid hb1
  have K1w := Lib.hid k1
  clear hb1 k1
  cases b1
  · go_wp2_with fail
    go_ret
    exact ⟨rfl, K1w.out⟩
  obtain ⟨hx1, hx2, hF, hfit⟩ := HB.out (by first | rfl | trivial)
  obtain ⟨n, rfl⟩ := Int.eq_ofNat_of_zero_le hx1
  have HFT := Lib.hid hfit
  have hn : n ≤ 65536 := by omega
  clear HB hfit hx1 hx2
  go_wp2_with fail
  refine (clone w1 a c F (H.out.kept K1w.out) hF HFT.out).mono ?_
  rintro e wB ⟨⟨aB, cB, rfl, hcB⟩, kB⟩
  obtain ⟨a', c', e, hc1, hc2, _⟩ := Sl.len hcB
  injection e with e1 e2 e3
  subst e1 e3
  clear e2
  have HC := Lib.hid hcB
  have KB := Lib.hid (K1w.out.trans kB)
  clear hcB kB K1w H
  have HA0 : Hid (TO wB F (.slice none 0 0) (.slice none 0 0) (.int .i64 ((F.length : Int) - 1)) wB) := Lib.hid ⟨F.length, Nat.le_refl _, rfl, by rw [its_end]; exact K1.nil wB⟩
  go_wp2_with fail
  go_loopw [5, 6, 7] (fun t5 t6 t7 W => TO wB F t5 t6 t7 W) (fun _ _ t7 _ => (intOf t7 + 1).toNat)
  case atStart => exact HA0.out
  case round =>
    obtain ⟨k, hk, rfl, hq⟩ := hrel
    have HQ := Lib.hid hq
    obtain ⟨w2, rfl⟩ : ∃ w2 : World, w2 = wr := ⟨_, rfl⟩
    clear hq HA0
    rcases k with _ | k
    · obtain ⟨⟨a5, c5, rfl⟩, a6, c6, rfl⟩ := HQ.out.forms
      have HLE := Lib.hid (its_le F HFT.out hF (k := 0) (by omega))
      have HNS := Lib.hid (nest n F)
      have HNN := Lib.hid (nest_none F)
      have HRW := Lib.hid HQ.out.rows
      have HKW := Lib.hid HQ.out.2.2
      generalize its F 0 = l at *
      clear HQ
      go_upto_if 74 with (fail)
      go_cut [10] (fun t10 W => Hid (SCut n l t10) ∧ W = w2)
      case first =>
        by_cases hn0 : 0 < n
        · have hn1 : (0 : Int) < (n : Int) := by omega
          go_wp2_with fail
          go_meet
          exact ⟨Lib.hid (.inl ⟨0, rfl, .inl ⟨hn0, rfl⟩⟩), rfl⟩
        · obtain rfl : n = 0 := by omega
          go_upto_region 25 with fail
          go_loopw [10, 11] (fun t10 t11 W => TF w2 l t10 t11 W) (fun _ t11 _ => l.length - (intOf t11).toNat)
          case atStart => exact ⟨0, Nat.zero_le _, rfl, rfl, (fun j hj => absurd hj (by omega)), rfl⟩
          case round =>
            obtain ⟨i, hi, rfl, rfl, hno, rfl⟩ := hrel
            have HNO := Lib.hid hno
            clear hno
            have hll := HLE.out
            have hc6 := HRW.out.2.2.1
            have hc62 : c6 ≤ 9223372036854775807 := by have := HRW.out.2.2.2.1; unfold maxLen at this; exact this
            by_cases hil : i < l.length
            · have i0 : (i : Int) < (l.length : Int) := by omega
              obtain ⟨b6, o6, e6, _, z0⟩ := HRW.out.2.at_ false hil
              subst e6
              have hgd : (l.map (·.2)).getD i false = (l.getD i default).2 := by simp [hil]
              rw [hgd] at z0
              clear hgd
              by_cases hb : (l.getD i default).2 = true
              · have HBB := Lib.hid hb
                rw [hb] at z0
                clear hb
                go_wp2_with fail
                go_meet
                exact ⟨Lib.hid (.inl ⟨i, rfl, .inr ⟨rfl, hil, HBB.out, HNO.out⟩⟩), rfl⟩
              · have hb : (l.getD i default).2 = false := by simpa using hb
                rw [hb] at z0
                have HN2 : Hid (∀ j, j < i + 1 → (l.getD j default).2 = false) := Lib.hid (fun j hj => by
                  by_cases e : j = i
                  · rw [e]; exact hb
                  · exact HNO.out j (by omega))
                clear hb
                go_wp2_with fail
                go_roundw
                case rel => exact ⟨i + 1, by omega, by go_num, rfl, HN2.out, rfl⟩
                case measure => simp [intOf]; omega
            · obtain rfl : i = l.length := by omega
              go_wp2_with fail
              go_meet
              exact ⟨Lib.hid (.inr ⟨rfl, rfl, HNO.out⟩), rfl⟩
      case rest =>
        obtain ⟨hs, rfl⟩ := hcut
        obtain ⟨w2, rfl⟩ : ∃ w2 : World, w2 = wc := ⟨_, rfl⟩
        have KW2 := Lib.hid (KB.out.trans HKW.out)
        have HC2 := Lib.hid (HC.out.kept HKW.out)
        clear HC KB HKW
        go_upto_region 29 with fail
        go_wp2_with fail
        refine (rules w2 n hn).mono ?_
        rintro e w3 ⟨⟨v3, rfl, hch⟩, k3⟩
        have H3 := Lib.hid hch
        have K3 := Lib.hid k3
        have HC3 := Lib.hid (HC2.out.kept k3)
        clear hch k3 HC2
        go_wp2_with fail
        refine (build w3 aB cB F HC3.out hF HFT.out).mono ?_
        rintro e w4 ⟨⟨a4, c4, rfl, him⟩, k4⟩
        have H4 := Lib.hid (H3.out.kept k4)
        have HI := Lib.hid him
        have K4 := Lib.hid (K3.out.trans k4)
        clear him k4 H3 K3 HC3
        go_wp2_with fail
        refine (nested w4 v3 n a4 c4 F H4.out HI.out hn hF HFT.out).mono ?_
        rintro e w5 ⟨⟨v5, rfl, hch⟩, k5⟩
        have H5 := Lib.hid hch
        have K5 := Lib.hid (K4.out.trans k5)
        clear hch k5 H4 HI K4
        obtain ⟨s, rfl, hor⟩ | ⟨rfl, rfl, hno⟩ := hs.out
        · obtain ⟨hD, hsl⟩ := cutD (D := down n F 0) (HNS.out s) hor
          have HD := Lib.hid hD
          have hDl : (down n F 0).length = l.length - s := by rw [hD]; simp
          have HAT := Lib.hid (fun d (hd : d < l.length - s) => (congrArg (fun x => x.getD d ByteArray.empty) hD).trans (backAt hd))
          have hll := HLE.out
          clear hor hs HNS HNN hD
          generalize down n F 0 = D at *
          obtain ⟨av, cv, rfl, hv1, hv2⟩ := H5.out.form
          go_wp2_with fail
          refine (chain w5 _ D n H5.out (by omega)).mono ?_
          rintro e w6 ⟨⟨v9, rfl, hwk⟩, k6⟩
          obtain ⟨⟨a9, c9, rfl⟩, o9⟩ := hwk
          have hr9 := o9
          rw [flat1] at hr9
          have HR9 := Lib.hid (Row.of_own hr9)
          have HKF := Lib.hid ((KW2.out.trans K5.out).trans k6)
          have HR5 := Lib.hid ((HRW.out.1.kept K5.out).kept k6)
          have hc5 := HRW.out.1.2.1
          have hc52 : c5 ≤ 9223372036854775807 := by have := HRW.out.1.2.2.1; unfold maxLen at this; exact this
          have hc9 := HR9.out.2.1
          have hc92 : c9 ≤ 9223372036854775807 := by have := HR9.out.2.2.1; unfold maxLen at this; exact this
          rw [hDl] at hc9 ⊢
          obtain ⟨m, hm⟩ : ∃ m, m = l.length - s := ⟨_, rfl⟩
          have HML : Hid (D.length = m) := Lib.hid (by omega)
          have hms : m + s = l.length := by omega
          have hmi : ((l.length : Int) - (s : Int)) = (m : Int) := by omega
          rw [← hm] at hc9 HAT ⊢
          have HMS := Lib.hid hms
          clear k6 o9 hr9 HD hDl H5 HRW hm hms
          go_upto_region 38 with fail
          clear hmi
          go_loopw [16] (fun t16 W => TC w6 m t16 W) (fun t16 _ => m - (intOf t16).toNat)
          case atStart => exact ⟨0, Nat.zero_le _, rfl, Kept.refl _⟩
          case round =>
            obtain ⟨d, hd, rfl, hkw⟩ := hrel
            have HK7 := Lib.hid hkw
            obtain ⟨w7, rfl⟩ : ∃ w7 : World, w7 = wr := ⟨_, rfl⟩
            clear hkw
            by_cases hdm : d < m
            · have d0 : (d : Int) < (m : Int) := by omega
              obtain ⟨b9, o9, e9, _, z9⟩ := (HR9.out.kept HK7.out).at_ ByteArray.empty (k := d) (by rw [HML.out]; exact hdm)
              subst e9
              obtain ⟨b5, o5, e5, _, z5⟩ := (HR5.out.kept HK7.out).at_ ByteArray.empty (k := l.length - 1 - d) (by have := HMS.out; omega)
              subst e5
              have he := HAT.out d hdm
              have hms := HMS.out
              rw [← he] at z5
              clear he
              generalize D.getD d ByteArray.empty = sx at *
              obtain ⟨q, hq⟩ : ∃ q, q = l.length - 1 - d := ⟨_, rfl⟩
              rw [← hq] at z5
              have hql : (q : Int) < (l.length : Int) := by omega
              have hqi : IntKind.i64.wrap ((l.length : Int) - 1) = (l.length : Int) - 1 := IntWalk.i64_in _ (by omega)
              have hqj : IntKind.i64.wrap ((l.length : Int) - 1 - (d : Int)) = (q : Int) := (IntWalk.i64_in _ (by omega)).trans (by omega)
              have HQQ := Lib.hid hq
              clear hq hms
              go_upto_region 40 with fail
              go_quiet (fail)
              have HK8 := Lib.hid (HK7.out.drewN nq)
              generalize w7.drewN nq = w8 at *
              clear hqi hqj z9 z5 hql
              go_wp2_with fail
              go_roundw
              case rel => exact ⟨d + 1, by omega, by go_num, HK8.out⟩
              case measure => simp [intOf]; omega
            · obtain rfl : m = d := by omega
              have HKE := Lib.hid (HKF.out.trans HK7.out)
              go_wp2_with fail
              go_ret
              exact ⟨rfl, HKE.out⟩
        · have HD := Lib.hid (HNN.out hno)
          have H6 : Hid (Ch w5 0 [] v5) := Lib.hid (by rw [← HD.out]; exact H5.out)
          have HKF := Lib.hid (KW2.out.trans K5.out)
          clear hno HD H5 hs HNS HNN
          obtain ⟨a6, c6, rfl, _, _⟩ := H6.out.form
          simp only [top]
          go_wp2_with fail
          go_ret
          exact ⟨rfl, HKF.out⟩
    · rw [show (((k + 1 : Nat) : Int) - 1) = (k : Int) by omega]
      have hlt : k < F.length := by omega
      have k0 : (k : Int) < (F.length : Int) := by omega
      obtain ⟨b, off, ea, _, a1, c1, y0, y1, r1⟩ := HC.out.at_ hlt
      subst ea
      obtain ⟨f1, f2, f3⟩ := HFT.out k hlt
      have HST := Lib.hid (its_step F hlt)
      have HLE := Lib.hid (its_le F HFT.out hF (k := k + 1) (by omega))
      generalize its F (k + 1) = pre at *
      generalize hcd : at_ F k = cd at *
      obtain ⟨m, hm⟩ : ∃ m : Nat, cd.s = (m : Int) := ⟨cd.s.toNat, by omega⟩
      have HM : Hid (cd.s.toNat = m) := Lib.hid (by omega)
      have hm3 : m ≤ 65536 := by omega
      rw [hm] at y1
      have HIT : Hid (items cd = cd.L.map (fun b => (lyr, b)) ++ List.replicate m (sup, false)) := Lib.hid (by unfold items; rw [HM.out])
      have R1 := Lib.hid r1
      have Y0 := Lib.hid y0
      have Y1 := Lib.hid y1
      have hcp := r1.2.1
      have hcp2 : c1 ≤ 9223372036854775807 := by have := r1.2.2.1; unfold maxLen at this; exact this
      clear hm f2 f3 y0 y1 r1 hcd HM
      have HA2 : Hid (TLy wB pre cd.L u5 u6 (.int .i64 0) w2) := Lib.hid ⟨0, Nat.zero_le _, rfl, by simpa using HQ.out⟩
      clear HQ
      go_upto_region 12 with fail
      go_loopw [5, 6, 8] (fun t5 t6 t8 W => TLy wB pre cd.L t5 t6 t8 W) (fun _ _ t8 _ => cd.L.length - (intOf t8).toNat)
      case atStart => exact HA2.out
      case round =>
        obtain ⟨j, hj, rfl, hq⟩ := hrel
        have HQ := Lib.hid hq
        obtain ⟨w3, rfl⟩ : ∃ w3 : World, w3 = wr := ⟨_, rfl⟩
        clear hq HA2
        obtain ⟨⟨a5, c5, rfl⟩, a6, c6, rfl⟩ := HQ.out.forms
        have y0 := HQ.out.2.2.cell Y0.out
        by_cases hlj : j < cd.L.length
        · have j0 : (j : Int) < (cd.L.length : Int) := by omega
          obtain ⟨b3, off3, e3, _, x0⟩ := R1.out.at_ false hlj
          cases e3
          have X0 := Lib.hid x0
          clear x0
          have HNX : Hid (pre ++ (cd.L.take (j + 1)).map (fun b => ((lyr, b) : It)) = (pre ++ (cd.L.take j).map (fun b => (lyr, b))) ++ [(lyr, cd.L.getD j false)]) := Lib.hid (by
            rw [List.take_succ_eq_append_getElem hlj, List.map_append, ← List.append_assoc]; simp only [List.map_cons, List.map_nil]; simp [hlj])
          have hlen : (pre ++ (cd.L.take j).map (fun b => ((lyr, b) : It))).length ≤ 536870912 + 65536 := by
            have := HLE.out
            rw [List.length_append, List.length_map, List.length_take]; omega
          generalize pre ++ (cd.L.take j).map (fun b => ((lyr, b) : It)) = l1 at *
          generalize cd.L.getD j false = bb at *
          have o5 := HQ.out.1.2
          simp only [List.length_map] at o5
          have hsz := HQ.out.2.2.size
          go_upto_region 15 with (at_builtin; refine wpList_append_own_at (P := Try.prog) (w := _) rfl _ _ 25 rfl wB.heap.size 9 i9 z9 1 16 Try.underlying25 hi9 hz90 hz91 hz92 hz93 (by decide) _ _ _ rfl (o5.alloc _) ⟨w3.heap.size, 0, none⟩ 1 1 [.string lyr] rfl rfl (newsOf w3 _ 9) (by simp [Value.oneCell']) (by unfold maxLen; omega) (by omega) (by simp; omega) ?_; intro v5 w5 hown5 hg5 _ hat5)
          have hmid := K1.mid lyr HQ.out hown5 hg5 hat5
          have HO5 := Lib.hid hown5
          have HG5 := Lib.hid hg5
          have HT5 := Lib.hid hat5
          obtain ⟨p5, g5, rfl⟩ := own_shape hown5
          have o6 := hmid.1.2
          simp only [List.length_map] at o6
          have hsz5 := hmid.2.size
          have y0 := hmid.2.cell Y0.out
          have x0 := hmid.2.cell X0.out
          clear hmid hown5 hg5 hat5 o5
          go_wp2_with (at_builtin; refine wpList_append_own_at (P := Try.prog) (w := _) rfl _ _ 26 rfl wB.heap.size 4 i4 z4 1 1 Try.underlying26 hi4 hz40 hz41 hz42 hz43 (by decide) _ _ _ rfl (o6.alloc _) ⟨w5.heap.size, 0, none⟩ 1 1 [.bool bb] rfl rfl (newsOf w5 _ 4) (by simp [Value.oneCell']) (by unfold maxLen; omega) (by omega) (by simp; omega) ?_; intro v6 w6 hown6 hg6 _ hat6)
          have HP := Lib.hid (K1.push (lyr, bb) HQ.out HO5.out HG5.out HT5.out hown6 hg6 hat6)
          exact ⟨⟨j + 1, by omega, by go_num, by rw [HNX.out]; exact HP.out⟩, by simp [intOf]; omega⟩
        · obtain rfl : j = cd.L.length := by omega
          have HQ2 : Hid (TSu wB (pre ++ cd.L.map (fun b => ((lyr, b) : It))) m (.slice a5 (pre ++ (cd.L.take cd.L.length).map (fun b => ((lyr, b) : It))).length c5) (.slice a6 (pre ++ (cd.L.take cd.L.length).map (fun b => ((lyr, b) : It))).length c6) (.int .i64 0) w3) := Lib.hid ⟨0, Nat.zero_le _, rfl, by have := HQ.out; rw [List.take_length] at this ⊢; simpa using this⟩
          have hl2 : (pre ++ cd.L.map (fun b => ((lyr, b) : It))).length ≤ 536870912 + 65536 := by have := HLE.out; rw [List.length_append, List.length_map]; omega
          have HST : Hid (its F k = pre ++ cd.L.map (fun b => ((lyr, b) : It)) ++ List.replicate m ((sup, false) : It)) := Lib.hid (by rw [HST.out, HIT.out, List.append_assoc])
          clear HIT
          clear HQ
          generalize pre ++ cd.L.map (fun b => ((lyr, b) : It)) = pre2 at *
          generalize (pre ++ (cd.L.take cd.L.length).map (fun b => ((lyr, b) : It))).length = nn at *
          go_upto_region 17 with fail
          clear y0
          go_loopw [5, 6, 9] (fun t5 t6 t9 W => TSu wB pre2 m t5 t6 t9 W) (fun _ _ t9 _ => m - (intOf t9).toNat)
          case atStart => exact HQ2.out
          case round =>
            obtain ⟨j, hj, rfl, hq⟩ := hrel
            have HQ := Lib.hid hq
            obtain ⟨w4, rfl⟩ : ∃ w4 : World, w4 = wr := ⟨_, rfl⟩
            clear hq HQ2
            obtain ⟨⟨a5, c5, rfl⟩, a6, c6, rfl⟩ := HQ.out.forms
            have y1 := HQ.out.2.2.cell Y1.out
            by_cases hlj : j < m
            · have j0 : (j : Int) < (m : Int) := by omega
              have HNX : Hid (pre2 ++ List.replicate (j + 1) ((sup, false) : It) = (pre2 ++ List.replicate j ((sup, false) : It)) ++ [(sup, false)]) := Lib.hid (by rw [List.replicate_succ', List.append_assoc])
              have hlen : (pre2 ++ List.replicate j ((sup, false) : It)).length ≤ 536870912 + 65536 + 65536 := by rw [List.length_append, List.length_replicate]; omega
              generalize pre2 ++ List.replicate j ((sup, false) : It) = l1 at *
              have o5 := HQ.out.1.2
              simp only [List.length_map] at o5
              have hsz := HQ.out.2.2.size
              go_upto_region 20 with (at_builtin; refine wpList_append_own_at (P := Try.prog) (w := _) rfl _ _ 25 rfl wB.heap.size 9 i9 z9 1 16 Try.underlying25 hi9 hz90 hz91 hz92 hz93 (by decide) _ _ _ rfl (o5.alloc _) ⟨w4.heap.size, 0, none⟩ 1 1 [.string sup] rfl rfl (newsOf w4 _ 9) (by simp [Value.oneCell']) (by unfold maxLen; omega) (by omega) (by simp; omega) ?_; intro v5 w5 hown5 hg5 _ hat5)
              have hmid := K1.mid sup HQ.out hown5 hg5 hat5
              have HO5 := Lib.hid hown5
              have HG5 := Lib.hid hg5
              have HT5 := Lib.hid hat5
              obtain ⟨p5, g5, rfl⟩ := own_shape hown5
              have o6 := hmid.1.2
              simp only [List.length_map] at o6
              have hsz5 := hmid.2.size
              skip
              clear hmid hown5 hg5 hat5 o5
              go_wp2_with (at_builtin; refine wpList_append_own_at (P := Try.prog) (w := _) rfl _ _ 26 rfl wB.heap.size 4 i4 z4 1 1 Try.underlying26 hi4 hz40 hz41 hz42 hz43 (by decide) _ _ _ rfl (o6.alloc _) ⟨w5.heap.size, 0, none⟩ 1 1 [.bool false] rfl rfl (newsOf w5 _ 4) (by simp [Value.oneCell']) (by unfold maxLen; omega) (by omega) (by simp; omega) ?_; intro v6 w6 hown6 hg6 _ hat6)
              have HP := Lib.hid (K1.push (sup, false) HQ.out HO5.out HG5.out HT5.out hown6 hg6 hat6)
              exact ⟨⟨j + 1, by omega, by go_num, by rw [HNX.out]; exact HP.out⟩, by simp [intOf]; omega⟩
            · obtain rfl : m = j := by omega
              go_wp2_with fail
              go_roundw
              case rel => exact ⟨k, by omega, by go_num, by rw [HST.out]; exact HQ.out⟩
              case measure => simp [intOf]
end Go.Proofs.Ytimllpocefbcbaa.wr
