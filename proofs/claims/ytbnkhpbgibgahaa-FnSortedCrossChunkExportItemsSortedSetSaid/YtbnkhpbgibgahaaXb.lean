/-
  The second law over this seat's program: what sortedCrossChunkExportItems returns holds each ref once, bears the stable indices, and is in order.
  Conditions: none.
-/
import Derived.Test.YtbnkhpbgibgahaaXa
import Derived.Test.YtbnkhpbgibgahaaEm
import Derived.BigQuiet
namespace Go.Proofs.Ytbnkhpbgibgahaa.xb
open Go.ChangeShapes Go.WideShapes Go.ChangeAt Go.RowKit
open kit ms fl rf es

open xa
def L4 (w : World) (n : Nat) (t : Value) (W : World) : Prop := ∃ k : Nat, t = .int .i64 (k : Int) ∧ k ≤ n ∧ Kept w W
def L6 (w : World) (g m : Nat) (L : List En) (t : Value) (W : World) : Prop := ∃ k : Nat, t = .int .i64 (k : Int) ∧ k ≤ m ∧ Rs W g (L.take k) ∧ Kept w W
set_option maxRecDepth 100000 in
set_option maxHeartbeats 8000000 in
theorem main (A : Option Addr) (lS cS : Nat) (S : List Int) (B : Option Addr) (lP cP : Nat) (P : List Int) (C : Option Addr) (lQ cQ : Nat) (Q : List Int) (w : World)
    (hS : Row w A lS cS (S.map (Value.int .u32))) (hP : Row w B lP cP (P.map (Value.int .u32))) (hQ : Row w C lQ cQ (Q.map (Value.int .u32)))
    (wP : ∀ j, 0 ≤ P.getD j 0 ∧ P.getD j 0 ≤ 4294967295) (wQ : ∀ j, 0 ≤ Q.getD j 0 ∧ Q.getD j 0 ≤ 4294967295) :
    Calls Try.prog 4 #[.slice A lS cS, .slice B lP cP, .slice C lQ cQ] w (Yes w) := by
  have HS := Lib.hid hS
  have HP := Lib.hid hP
  have HQ := Lib.hid hQ
  have HWP := Lib.hid wP
  have HWQ := Lib.hid wQ
  have H5 := Lib.hid (fun W => bytes13 A B C lS lP lQ cS cP cQ W)
  clear hS hP hQ wP wQ
  cases hf : fits lS lP lQ
  · rw [hf] at H5
    clear hf
    go_enter Try.func4, Try.ntmps4
    go_wp2_with (go_at_call 13; refine (H5.out _).mono ?_; rintro e w1 ⟨rfl, rfl⟩)
    go_ret
    exact ⟨rfl, Below.refl _ _⟩
  rw [hf] at H5
  have hb0 : lS + lP + lQ ≤ 1048576 := by simpa [fits] using hf
  have H6 := Lib.hid (fun W => tooBig A B C lS lP lQ cS cP cQ W (by omega) (by omega) (by omega))
  clear hf
  cases hg : big lS lP lQ
  case true =>
    rw [hg] at H6
    clear hg
    go_enter Try.func4, Try.ntmps4
    go_wp2_with (first
      | (go_at_call 13; refine (H5.out _).mono ?_; rintro e w1 ⟨rfl, rfl⟩)
      | (go_at_call 6; refine (H6.out _).mono ?_; rintro e w1 ⟨rfl, rfl⟩))
    go_ret
    exact ⟨rfl, Below.refl _ _⟩
  rw [hg] at H6
  have hb1 : lS ≤ 65536 ∧ lP ≤ 65536 ∧ lQ ≤ 65536 := by
    simp [big] at hg
    omega
  obtain ⟨hS6, hP6, hQ6⟩ := hb1
  clear hg hb0
  obtain ⟨n, hn⟩ : ∃ n, n = min (min lP lQ) 65536 := ⟨_, rfl⟩
  have H7 := Lib.hid (fun W => min3 lP lQ 65536 W)
  rw [← hn] at H7
  have nP : n ≤ lP := by omega
  have nQ : n ≤ lQ := by omega
  have n6 : n ≤ 65536 := by omega
  clear hn
  have H8 := Lib.hid (fun W (k : Kept w W) => inRange W A B lS lP cS cP n P (HP.out.kept k) nP n6 (by omega) (fun j _ => HWP.out j))
  cases hi : inR P lS n
  · rw [hi] at H8
    clear hi
    go_enter Try.func4, Try.ntmps4
    go_wp2_with (first
      | (go_at_call 13; refine (H5.out _).mono ?_; rintro e w1 ⟨rfl, rfl⟩)
      | (go_at_call 6; refine (H6.out _).mono ?_; rintro e w1 ⟨rfl, rfl⟩)
      | (go_at_call 7; refine (H7.out _).mono ?_; rintro e w1 ⟨rfl, rfl⟩)
      | (go_at_call 8; refine (H8.out w (Kept.refl w)).mono ?_; rintro e w1 ⟨rfl, k1⟩; have K1 := Lib.hid k1; clear k1))
    go_ret
    exact ⟨rfl, K1.out⟩
  rw [hi] at H8
  have HIN := Lib.hid (fun k (hk : k < n) => inR_at hi hk)
  clear hi
  go_enter Try.func4, Try.ntmps4
  go_upto_region 8 with (first
    | (go_at_call 13; refine (H5.out _).mono ?_; rintro e w1 ⟨rfl, rfl⟩)
    | (go_at_call 6; refine (H6.out _).mono ?_; rintro e w1 ⟨rfl, rfl⟩)
    | (go_at_call 7; refine (H7.out _).mono ?_; rintro e w1 ⟨rfl, rfl⟩)
    | (go_at_call 8; refine (H8.out w (Kept.refl w)).mono ?_; rintro e w1 ⟨rfl, k1⟩; have K1 := Lib.hid k1; clear k1))
  go_upto_region 9 with (go_at_call 9; refine (cloneU.run A lS cS S _ (HS.out.kept K1.out) (by omega)).mono ?_; rintro e w2 ⟨A2, rfl, o2, _, k2⟩; have RS := Lib.hid (Row.of_own o2); have K2 := Lib.hid (K1.out.trans k2); have K12 := Lib.hid k2; clear o2 k2)
  go_upto_region 10 with (go_at_call 9; refine (cloneU.run B lP cP P _ (HP.out.kept K2.out) (by omega)).mono ?_; rintro e w3 ⟨B2, rfl, o3, _, k3⟩; have RP := Lib.hid (Row.of_own o3); have K3 := Lib.hid (K2.out.trans k3); have K23 := Lib.hid k3; clear o3 k3)
  go_upto_region 11 with (go_at_call 9; refine (cloneU.run C lQ cQ Q _ (HQ.out.kept K3.out) (by omega)).mono ?_; rintro e w4 ⟨C2, rfl, o4, _, k4⟩; have RQ := Lib.hid (Row.of_own o4); have K4 := Lib.hid (K3.out.trans k4); have K34 := Lib.hid k4; clear o4 k4)
  go_upto_region 12 with (go_at_call 10; refine (model _ A2 B2 C2 lS lP lQ lS lP lQ n S P Q ⟨RS.out.kept (K23.out.trans K34.out), RP.out.kept K34.out, RQ.out, nP, nQ, n6, hS6, fun k hk => ⟨(HWP.out k).1, by have := HIN.out k hk; have := (HWP.out k).1; omega⟩, fun k _ => (HWP.out k).2, fun k _ => HWQ.out k⟩).mono ?_; rintro e w5 ⟨r, c5, sp, Y, rfl, y1, y2, y3, y4, k5⟩; have HY1 := Lib.hid y1; have HY2 := Lib.hid y2; have HY3 := Lib.hid y3; have HY4 := Lib.hid y4; have K5 := Lib.hid (K4.out.trans k5); have K45 := Lib.hid k5; clear y1 y2 y3 y4 k5)
  have HIP := Lib.hid (⟨RS.out.kept ((K23.out.trans K34.out).trans K45.out), RP.out.kept (K34.out.trans K45.out), RQ.out.kept K45.out, nP, nQ, n6, hS6, fun k hk => ⟨(HWP.out k).1, by have := HIN.out k hk; have := (HWP.out k).1; omega⟩, fun k _ => (HWP.out k).2, fun k _ => HWQ.out k⟩ : Inp w5 A2 B2 C2 lS lP lQ lS lP lQ S P Q n)
  clear H5 H6 H7 H8 HIN HWP HWQ RS RP RQ K1 K2 K3 K4 K12 K23 K34 K45 HS HP HQ
  obtain ⟨F, hF⟩ : ∃ F, F = ents S P Q n := ⟨_, rfl⟩
  have HFE := Lib.hid hF
  have HGO : Hid (so.Good S F) := Lib.hid (by rw [hF]; exact HIP.out.good)
  have HFL : Hid (F.length ≤ 65536) := Lib.hid (by rw [hF, ents_length]; omega)
  rw [← hF] at HY1 HY4
  clear hF
  go_upto_region 13 with (go_at_call 11; refine (refSet _ A2 B2 C2 lS lP lQ lS lP lQ n S P Q HIP.out).mono ?_; rintro e w7 ⟨mb, rfl, q1, q2, k7⟩; rw [← HFE.out] at q2; have HRS := Lib.hid q2; have K7 := Lib.hid k7; clear q1 q2 k7)
  go_upto_region 14 with (go_at_call 12; refine (zz _ mb A2 lS lS S F (HIP.out.kept K7.out).rS HRS.out HGO.out HFL.out (by omega)).mono ?_; intro e w8 ho; obtain ⟨g, c8, sp8, R, rfl, g1, g2, k8, g4, g5, g6⟩ := ho; have HG2 := Lib.hid g2; have K8 := Lib.hid (K7.out.trans k8); have HG4 := Lib.hid g4; have HG5 := Lib.hid g5; have HG6 := Lib.hid g6; clear g1 g2 k8 g4 g5 g6)
  have hdd : DD Y (dd Y) := dd_spec (fun x => S.getD x.toNat 0) Y [] (fun e he => by
    rw [List.append_nil] at he
    exact (HGO.out e (HY1.out.mem_iff.1 he)).2.2) (by rw [List.append_nil]; exact HY2.out)
  have hRl : (dd Y).length = R.size := by
    have := (perm_of_mem HG4.out hdd.nodup (fun e => by rw [HG5.out, hdd.mem, HY1.out.mem_iff])).length_eq
    rw [← this]
    simp
  rw [hRl]
  have HM8 := Lib.hid (HIP.out.kept K8.out)
  have KB := Lib.hid (K5.out.trans K8.out)
  have hR6 : R.size ≤ 65536 := by have h4 := HY4.out; have := HFL.out; omega
  obtain ⟨m, hm⟩ : ∃ m, m = R.size := ⟨_, rfl⟩
  rw [← hm] at hR6 HG6 ⊢
  have HML := Lib.hid hm
  clear hdd hRl hm HY1 HY2 HY3 HY4 HIP K5 K7 K8 HRS
  have H1 : Hid (L4 w8 m (.int .i64 0) w8) := Lib.hid ⟨0, rfl, by omega, Kept.refl _⟩
  go_wp2_with fail
  go_loopw [11, 12] (fun t _ W => L4 w8 m t W) (fun t _ _ => m - (intOf t).toNat)
  case atStart => exact H1.out
  case round =>
    obtain ⟨k, rfl, k1, hk9⟩ := hrel
    have HK9 := Lib.hid hk9
    clear hk9 H1
    by_cases hk : k < m
    · have hml := HML.out
      obtain ⟨a, ha⟩ : ∃ a, R.toList[k]? = some a := ⟨R.toList[k]'(by simp; omega), List.getElem?_eq_getElem (by simp; omega)⟩
      obtain ⟨⟨⟨o1, o2⟩, o3, o4⟩, o5, o6⟩ := HGO.out a ((HG5.out a).1 (List.mem_of_getElem? ha))
      have hrw : Blk wr g 40 (flat R.toList ++ sp8) := HG2.out.kept HK9.out
      obtain ⟨a0, a1, a2⟩ := rowCell hrw ha
      obtain ⟨p, hp⟩ := Int.eq_ofNat_of_zero_le o1
      have hSn : S.length = lS := by have := HM8.out.rS.len; simpa using this
      rw [hp, Int.toNat_natCast] at o5 o6
      obtain ⟨bS, oS, rfl, _, c1⟩ := (HM8.out.kept HK9.out).rS.at_ 0 (k := p) (by omega)
      rw [← o6] at c1
      rw [hp] at a1
      have HRW := Lib.hid (so.Rw.start (n := m) (show Blk wr g 40 (Cells R sp8) from hrw) hml.symm)
      obtain ⟨ax, ay, az⟩ := a
      dsimp only at a0 a1 a2 o1 o2 o3 o4 o6 c1 hp
      clear hrw ha hml o1 o2 o3 o4 o6 hp
      have i1 : (k : Int) < (m : Int) := by omega
      have i2 : (0 : Int) ≤ (k : Int) := by omega
      have i3 : (p : Int) < (lS : Int) := by omega
      have i4 : (0 : Int) ≤ (p : Int) := by omega
      have i5 : decide ((p : Int) ≥ (lS : Int)) = false := by simp; omega
      have e1 : (ax != ax) = false := by simp
      clear hSn
      go_upto_region 22 with fail
      go_quiet (fail)
      have HRW2 := Lib.hid (HRW.out.kept ((Kept.refl wr).drewN nq))
      have HK10 := Lib.hid (HK9.out.trans ((Kept.refl wr).drewN nq))
      clear HRW HK9 a0 a1 a2 c1
      generalize wr.drewN nq = w9 at *
      rcases k with _ | j
      · have HN : Hid (L4 w8 m (.int .i64 1) w9) := Lib.hid ⟨1, rfl, by omega, HK10.out⟩
        clear HRW2 HK10
        go_wp2_with fail
        go_roundw
        case rel => first | exact HN.out | ((repeat apply Exists.intro); exact ⟨HN.out, rfl⟩)
        case measure => simp [intOf] <;> omega
      · have HLS := Lib.hid (so.less g m c8 sp8 _ R w9 (j + 1) j HRW2.out (by omega) (by omega))
        rw [HG6.out j (j + 1) (by omega) (by omega) (by omega)] at HLS
        unfold so.rowV at HLS
        rw [show ((j + 1 : Nat) : Int) = (j : Int) + 1 by omega] at HLS ⊢
        go_wp2_with (go_at_call 14; refine HLS.out.mono ?_; rintro e w10 ⟨rfl, k10⟩; have HN : Hid (L4 w8 m (.int .i64 ((j : Int) + 1 + 1)) w10) := Lib.hid ⟨j + 2, by go_num, by omega, HK10.out.trans k10⟩; clear k10)
        go_roundw
        case rel => first | exact HN.out | ((repeat apply Exists.intro); exact ⟨HN.out, rfl⟩)
        case measure => simp [intOf] <;> omega
    · have HM9 := Lib.hid (HM8.out.kept HK9.out)
      have HG9 := Lib.hid (HG2.out.kept HK9.out)
      have KB9 := Lib.hid (KB.out.trans HK9.out)
      clear HM8 HG2 KB HK9
      obtain ⟨wo, hwo⟩ : ∃ wo, wo = wr := ⟨_, rfl⟩
      subst hwo
      have hmm := mkMap m wo
      obtain ⟨gb, hgb⟩ : ∃ gb, gb = wo.heap.size := ⟨_, rfl⟩
      have H2 : Hid (L6 wo gb m R.toList (.int .i64 0) (wo.alloc (.map #[] 0))) := Lib.hid ⟨0, rfl, by omega, by rw [hgb, List.take_zero]; exact Rs.made wo, (Kept.refl wo).alloc _⟩
      rw [← hgb] at hmm
      have HGB := Lib.hid hgb
      clear hgb
      generalize wo.alloc (.map #[] 0) = wm at *
      go_wp2_with fail
      clear hmm
      go_loopw [14] (fun t W => L6 wo gb m R.toList t W) (fun t _ => m - (intOf t).toNat)
      case atStart => exact H2.out
      case round =>
        obtain ⟨j, rfl, j1, hrs, hkj⟩ := hrel
        have HRS := Lib.hid hrs
        have HKJ := Lib.hid hkj
        clear hrs hkj H2
        obtain ⟨wq, hwq⟩ : ∃ wq, wq = wr := ⟨_, rfl⟩
        subst hwq
        by_cases hj : j < m
        · have hml := HML.out
          have hjl : j < R.toList.length := by simp; omega
          obtain ⟨a, ha⟩ : ∃ a, R.toList[j]? = some a := ⟨R.toList[j], List.getElem?_eq_getElem hjl⟩
          have hga := HGO.out a ((HG5.out a).1 (List.mem_of_getElem? ha))
          have hrw : Blk wq g 40 (flat R.toList ++ sp8) := HG9.out.kept HKJ.out
          obtain ⟨a0, a1, a2⟩ := rowCell hrw ha
          obtain ⟨w11, hst, hs11, hg11, hz11⟩ := HRS.out.store hga.1 (by rw [List.length_take]; omega)
          have hta : R.toList.take (j + 1) = R.toList.take j ++ [a] := by
            rw [List.take_succ_eq_append_getElem hjl]
            congr 2
            exact Option.some.inj ((List.getElem?_eq_getElem hjl).symm.trans ha)
          have HN : Hid (L6 wo gb m R.toList (.int .i64 ((j : Int) + 1)) w11) := Lib.hid ⟨j + 1, by go_num, by omega, by rw [hta]; exact hs11, by
            have h := HGB.out
            exact ⟨hg11.os.trans HKJ.out.os, hg11.tape.trans HKJ.out.tape, hg11.output.trans HKJ.out.output, Nat.le_trans HKJ.out.size hg11.size, fun i hi => (hg11.block i (Nat.lt_of_lt_of_le hi HKJ.out.size) (fun e => by injection e; omega)).trans (HKJ.out.block i hi)⟩⟩
          unfold key at hst
          obtain ⟨ax, ay, az⟩ := a
          dsimp only at a0 a1 a2 hst
          clear hrw ha hml hjl hga hta hs11 hg11 hz11 HRS HKJ
          have i1 : (j : Int) < (m : Int) := by omega
          have i2 : (0 : Int) ≤ (j : Int) := by omega
          go_wp2_with fail
          go_roundw
          case rel => first | exact HN.out | ((repeat apply Exists.intro); exact ⟨HN.out, rfl⟩)
          case measure => simp [intOf] <;> omega
        · have htk : R.toList.take j = R.toList := List.take_of_length_le (by have := HML.out; simp; omega)
          rw [htk] at HRS
          have hsz : Maps.size (D R.toList) = m := by
            rw [size_nodup HRS.out.ok]
            · have := HML.out; simp; omega
            · refine (List.Pairwise.imp_of_mem (fun {a c} ha hc hne => ?_) HG4.out)
              intro hs
              exact hne (HGO.out.same ((HG5.out a).1 ha) ((HG5.out c).1 hc) hs)
          have HSZ := Lib.hid hsz
          have HMJ := Lib.hid (HM9.out.kept HKJ.out)
          have KBJ := Lib.hid (KB9.out.trans HKJ.out)
          clear hsz htk HKJ HM9 KB9 HG9
          have H3 : Hid (L4 wq n (.int .i64 0) wq) := Lib.hid ⟨0, rfl, by omega, Kept.refl _⟩
          go_upto_region 33 with (at_len; refine wpList_len_own _ rfl _ 32 rfl 38 4 Try.underlying32 El gb R.toList.length (D R.toList) rfl HRS.out.own ?_; rw [HSZ.out])
          go_wp2_with fail
          go_loopw [15] (fun t W => L4 wq n t W) (fun t _ => n - (intOf t).toNat)
          case atStart => exact H3.out
          case round =>
            obtain ⟨k, rfl, k1, hkk⟩ := hrel
            have HKK := Lib.hid hkk
            clear hkk H3
            by_cases hk : k < n
            · obtain ⟨bS, oS, bP, oP, bQ, oQ, p, rfl, rfl, rfl, ep, hp, c1, c2, c3⟩ := (HMJ.out.kept HKK.out).at_ hk
              have heF : ent3 S P Q k ∈ R.toList := (HG5.out _).2 (by rw [HFE.out]; exact ents_mem.2 ⟨k, hk, rfl⟩)
              have hlk : ∀ W : World, W.heap = wr.heap → (Instr.lookup 32 (.map (some gb)) (.agg #[.int .u32 (p : Int), .int .u32 (Q.getD k 0)]) false).run Try.prog W = .ok (.bool true) W := fun W hW => by
                have hR : Rs W gb R.toList := (HRS.out.kept HKK.out).block (by rw [hW])
                have h := hR.look (hR.ok _ heF) ⟨_, heF, rfl, rfl⟩
                unfold key ent3 at h
                dsimp only at h
                rwa [ep] at h
              have hl1 := hlk wr.drew rfl
              have hl2 := fun nq => hlk (wr.drewN nq) rfl
              have hl3 := hlk wr rfl
              have i1 : (k : Int) < (lP : Int) := by omega
              have i2 : (k : Int) < (lQ : Int) := by omega
              have i5 : (0 : Int) ≤ (k : Int) := by omega
              have HN : Hid (∀ nq, L4 wq n (.int .i64 ((k : Int) + 1)) (wr.drewN nq)) := Lib.hid (fun nq => ⟨k + 1, by go_num, by omega, HKK.out.trans ((Kept.refl wr).drewN nq)⟩)
              clear hlk heF ep c3 HKK
              generalize Q.getD k 0 = xn at *
              go_upto_region 36 with fail
              go_quiet (fail)
              go_wp2_with fail
              go_roundw
              case rel => first | exact HN.out _ | ((repeat apply Exists.intro); exact ⟨HN.out _, rfl⟩)
              case measure => simp [intOf] <;> omega
            · have HF : Hid (Yes w (.returned (.bool true)) wr) := Lib.hid ⟨rfl, KBJ.out.trans HKK.out⟩
              go_wp2_with fail
              go_ret
              exact HF.out
end Go.Proofs.Ytbnkhpbgibgahaa.xb
