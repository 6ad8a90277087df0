/-
  The first law over this seat's program: what sortedCrossChunkExportItems returns is the model, element by element.
  Conditions: none.
-/
import Derived.Test.YtbnkhpbgibgahaaEb
import Derived.Test.YtbnkhpbgibgahaaEm
import Derived.BigQuiet
namespace Go.Proofs.Ytbnkhpbgibgahaa.xa
open Go.ChangeShapes Go.WideShapes Go.ChangeAt Go.RowKit
open kit ms fl rf es

theorem rowCell {W : World} {g t : Nat} {M : List En} {sp : List Value} (h : Blk W g t (flat M ++ sp)) {k : Nat} {e : En} (he : M[k]? = some e) :
    W.cell? ⟨g, k * 3, none⟩ = some (.int .u32 e.s) ∧ W.cell? ⟨g, k * 3 + 1, none⟩ = some (.int .u32 e.src) ∧ W.cell? ⟨g, k * 3 + 2, none⟩ = some (.int .u32 e.inn) := by
  have hk := (List.getElem?_eq_some_iff.1 he).1
  have hl := flat_length M
  refine ⟨?_, ?_, ?_⟩
  · rw [h.cell, List.getElem?_append_left (by omega), show k * 3 = 3 * k + 0 by omega, flat_at he 0 (by omega)]; rfl
  · rw [h.cell, List.getElem?_append_left (by omega), show k * 3 + 1 = 3 * k + 1 by omega, flat_at he 1 (by omega)]; rfl
  · rw [h.cell, List.getElem?_append_left (by omega), show k * 3 + 2 = 3 * k + 2 by omega, flat_at he 2 (by omega)]; rfl
def L3 (w : World) (M : List En) (t : Value) (W : World) : Prop :=
  ∃ k : Nat, t = .int .i64 (k : Int) ∧ 1 ≤ k ∧ k ≤ M.length + 1 ∧ (∀ j a b, j + 1 < k → M[j]? = some a → M[j + 1]? = some b → ¬ (b.s = a.s ∧ b.inn = a.inn)) ∧ Kept w W
def L4 (w : World) (n : Nat) (t : Value) (W : World) : Prop := ∃ k : Nat, t = .int .i64 (k : Int) ∧ k ≤ n ∧ Kept w W
/-- what the call comes to -/
def Yes (w : World) (e : Ending) (w' : World) : Prop := e = .returned (.bool true) ∧ Below w.heap.size w w'
set_option maxRecDepth 100000 in
set_option maxHeartbeats 8000000 in
theorem main (A : Option Addr) (lS cS : Nat) (S : List Int) (B : Option Addr) (lP cP : Nat) (P : List Int) (C : Option Addr) (lQ cQ : Nat) (Q : List Int) (w : World)
    (hS : Row w A lS cS (S.map (Value.int .u32))) (hP : Row w B lP cP (P.map (Value.int .u32))) (hQ : Row w C lQ cQ (Q.map (Value.int .u32)))
    (wP : ∀ j, 0 ≤ P.getD j 0 ∧ P.getD j 0 ≤ 4294967295) (wQ : ∀ j, 0 ≤ Q.getD j 0 ∧ Q.getD j 0 ≤ 4294967295) :
    Calls Try.prog 3 #[.slice A lS cS, .slice B lP cP, .slice C lQ cQ] w (Yes w) := by
  have HS := Lib.hid hS
  have HP := Lib.hid hP
  have HQ := Lib.hid hQ
  have HWP := Lib.hid wP
  have HWQ := Lib.hid wQ
  have H5 := Lib.hid (fun W => bytes5 A B C lS lP lQ cS cP cQ W)
  clear hS hP hQ wP wQ
  cases hf : fits lS lP lQ
  · rw [hf] at H5
    clear hf
    go_enter Try.func3, Try.ntmps3
    go_wp2_with (go_at_call 5; refine (H5.out _).mono ?_; rintro e w1 ⟨rfl, rfl⟩)
    go_ret
    exact ⟨rfl, Below.refl _ _⟩
  rw [hf] at H5
  have hb0 : lS + lP + lQ ≤ 1048576 := by simpa [fits] using hf
  have H6 := Lib.hid (fun W => tooBig A B C lS lP lQ cS cP cQ W (by omega) (by omega) (by omega))
  clear hf
  cases hg : big lS lP lQ
  case true =>
    rw [hg] at H6
    clear hg
    go_enter Try.func3, Try.ntmps3
    go_wp2_with (first
      | (go_at_call 5; refine (H5.out _).mono ?_; rintro e w1 ⟨rfl, rfl⟩)
      | (go_at_call 6; refine (H6.out _).mono ?_; rintro e w1 ⟨rfl, rfl⟩))
    go_ret
    exact ⟨rfl, Below.refl _ _⟩
  rw [hg] at H6
  have hb1 : lS ≤ 65536 ∧ lP ≤ 65536 ∧ lQ ≤ 65536 := by
    simp [big] at hg
    omega
  obtain ⟨hS6, hP6, hQ6⟩ := hb1
  clear hg hb0
  obtain ⟨n, hn⟩ : ∃ n, n = min (min lP lQ) 65536 := ⟨_, rfl⟩
  have H7 := Lib.hid (fun W => min3 lP lQ 65536 W)
  rw [← hn] at H7
  have nP : n ≤ lP := by omega
  have nQ : n ≤ lQ := by omega
  have n6 : n ≤ 65536 := by omega
  clear hn
  have H8 := Lib.hid (fun W (k : Kept w W) => inRange W A B lS lP cS cP n P (HP.out.kept k) nP n6 (by omega) (fun j _ => HWP.out j))
  cases hi : inR P lS n
  · rw [hi] at H8
    clear hi
    go_enter Try.func3, Try.ntmps3
    go_wp2_with (first
      | (go_at_call 5; refine (H5.out _).mono ?_; rintro e w1 ⟨rfl, rfl⟩)
      | (go_at_call 6; refine (H6.out _).mono ?_; rintro e w1 ⟨rfl, rfl⟩)
      | (go_at_call 7; refine (H7.out _).mono ?_; rintro e w1 ⟨rfl, rfl⟩)
      | (go_at_call 8; refine (H8.out w (Kept.refl w)).mono ?_; rintro e w1 ⟨rfl, k1⟩; have K1 := Lib.hid k1; clear k1))
    go_ret
    exact ⟨rfl, K1.out⟩
  rw [hi] at H8
  have HIN := Lib.hid (fun k (hk : k < n) => inR_at hi hk)
  clear hi
  go_enter Try.func3, Try.ntmps3
  go_upto_region 8 with (first
    | (go_at_call 5; refine (H5.out _).mono ?_; rintro e w1 ⟨rfl, rfl⟩)
    | (go_at_call 6; refine (H6.out _).mono ?_; rintro e w1 ⟨rfl, rfl⟩)
    | (go_at_call 7; refine (H7.out _).mono ?_; rintro e w1 ⟨rfl, rfl⟩)
    | (go_at_call 8; refine (H8.out w (Kept.refl w)).mono ?_; rintro e w1 ⟨rfl, k1⟩; have K1 := Lib.hid k1; clear k1))
  go_upto_region 9 with (go_at_call 9; refine (cloneU.run A lS cS S _ (HS.out.kept K1.out) (by omega)).mono ?_; rintro e w2 ⟨A2, rfl, o2, _, k2⟩; have RS := Lib.hid (Row.of_own o2); have K2 := Lib.hid (K1.out.trans k2); have K12 := Lib.hid k2; clear o2 k2)
  go_upto_region 10 with (go_at_call 9; refine (cloneU.run B lP cP P _ (HP.out.kept K2.out) (by omega)).mono ?_; rintro e w3 ⟨B2, rfl, o3, _, k3⟩; have RP := Lib.hid (Row.of_own o3); have K3 := Lib.hid (K2.out.trans k3); have K23 := Lib.hid k3; clear o3 k3)
  go_upto_region 11 with (go_at_call 9; refine (cloneU.run C lQ cQ Q _ (HQ.out.kept K3.out) (by omega)).mono ?_; rintro e w4 ⟨C2, rfl, o4, _, k4⟩; have RQ := Lib.hid (Row.of_own o4); have K4 := Lib.hid (K3.out.trans k4); have K34 := Lib.hid k4; clear o4 k4)
  go_upto_region 12 with (go_at_call 10; refine (model _ A2 B2 C2 lS lP lQ lS lP lQ n S P Q ⟨RS.out.kept (K23.out.trans K34.out), RP.out.kept K34.out, RQ.out, nP, nQ, n6, hS6, fun k hk => ⟨(HWP.out k).1, by have := HIN.out k hk; have := (HWP.out k).1; omega⟩, fun k _ => (HWP.out k).2, fun k _ => HWQ.out k⟩).mono ?_; rintro e w5 ⟨r, c5, sp, Y, rfl, y1, y2, y3, y4, k5⟩; have HY1 := Lib.hid y1; have HY2 := Lib.hid y2; have HY3 := Lib.hid y3; have HY4 := Lib.hid y4; have K5 := Lib.hid (K4.out.trans k5); have K45 := Lib.hid k5; clear y1 y2 y3 y4 k5)
  have HIP := Lib.hid (⟨RS.out.kept ((K23.out.trans K34.out).trans K45.out), RP.out.kept (K34.out.trans K45.out), RQ.out.kept K45.out, nP, nQ, n6, hS6, fun k hk => ⟨(HWP.out k).1, by have := HIN.out k hk; have := (HWP.out k).1; omega⟩, fun k _ => (HWP.out k).2, fun k _ => HWQ.out k⟩ : Inp w5 A2 B2 C2 lS lP lQ lS lP lQ S P Q n)
  obtain ⟨M, hM⟩ : ∃ M, M = dd Y := ⟨_, rfl⟩
  rw [← hM] at HY3 HY4 ⊢
  have HDM := Lib.hid hM
  clear hM H5 H6 H7 H8 HIN HWP HWQ RS RP RQ K1 K2 K3 K4 K12 K23 K34 K45 HS HP HQ
  have H0 : Hid (L3 w5 M (.int .i64 1) w5) := Lib.hid ⟨1, rfl, Nat.le_refl _, by omega, fun j a b h => by omega, Kept.refl _⟩
  have hM6 : M.length ≤ 65536 := by have := HY4.out; rw [ents_length] at this; omega
  obtain ⟨m, hm⟩ : ∃ m, m = M.length := ⟨_, rfl⟩
  rw [← hm] at hM6 ⊢
  have HML := Lib.hid hm
  clear hm
  go_wp2_with fail
  go_loopw [9] (fun t W => L3 w5 M t W) (fun t _ => m + 1 - (intOf t).toNat)
  case atStart => exact H0.out
  case round =>
    obtain ⟨k, rfl, k1, k2, hns, hk⟩ := hrel
    have HNS := Lib.hid hns
    have HK := Lib.hid hk
    clear hns hk H0
    rw [← HML.out] at k2
    obtain ⟨wo, hwo⟩ : ∃ wo, wo = wr := ⟨_, rfl⟩
    subst hwo
    by_cases hlt : k < m
    · obtain ⟨j, rfl⟩ : ∃ j, k = j + 1 := ⟨k - 1, by omega⟩
      have hml := HML.out
      obtain ⟨a, ha⟩ : ∃ a, M[j]? = some a := ⟨M[j]'(by omega), List.getElem?_eq_getElem (by omega)⟩
      obtain ⟨b, hb⟩ : ∃ b, M[j + 1]? = some b := ⟨M[j + 1]'(by omega), List.getElem?_eq_getElem (by omega)⟩
      obtain ⟨a0, a1, a2⟩ := rowCell (HY3.out.kept HK.out) ha
      obtain ⟨b0, b1, b2⟩ := rowCell (HY3.out.kept HK.out) hb
      have HA := Lib.hid ha
      have HB := Lib.hid hb
      clear ha hb a1 b1 hml
      have i1 : (j : Int) + 1 < (m : Int) := by omega
      have i2 : (j : Int) < (m : Int) := by omega
      have i3 : (0 : Int) ≤ (j : Int) := by omega
      rw [show ((j + 1 : Nat) : Int) = (j : Int) + 1 by omega]
      have hst : ∀ nq, ¬ (b.s = a.s ∧ b.inn = a.inn) → L3 w5 M (.int .i64 ((j : Int) + 1 + 1)) (wo.drewN nq) := fun nq hne => by
        refine ⟨j + 2, by go_num, by omega, by rw [← HML.out]; omega, fun j2 x y h2 hx hy => ?_, HK.out.trans ((Kept.refl wo).drewN nq)⟩
        by_cases hj : j2 = j
        · subst hj
          rw [HA.out] at hx
          rw [HB.out] at hy
          cases hx
          cases hy
          exact hne
        · exact HNS.out j2 x y (by omega) hx hy
      have HST := Lib.hid hst
      clear hst
      obtain ⟨ax, ay, az⟩ := a
      obtain ⟨bs, br, bn⟩ := b
      dsimp only at a0 a2 b0 b2 HST
      by_cases e1 : bs = ax
      · by_cases e2 : bn = az
        · subst e1 e2
          have HYES : Hid (∀ nq, Below w.heap.size w (wo.drewN nq)) := Lib.hid (fun nq => (K5.out.trans HK.out).trans ((Kept.refl wo).drewN nq))
          clear HST
          go_upto_region 15 with fail
          go_quiet (fail)
          go_wp2_with fail
          go_ret
          exact ⟨rfl, HYES.out _⟩
        · have HN := Lib.hid (fun nq => HST.out nq (fun e => e2 e.2))
          subst e1
          have e3 : (bn == az) = false := by simpa using e2
          clear HST
          go_upto_region 15 with fail
          go_quiet (fail)
          go_wp2_with fail
          go_roundw
          case rel => first | exact HN.out _ | ((repeat apply Exists.intro); exact ⟨HN.out _, rfl⟩)
          case measure => simp [intOf] <;> omega
      · have HN := Lib.hid (fun nq => HST.out nq (fun e => e1 e.1))
        have e3 : (bs == ax) = false := by simpa using e1
        clear HST
        go_upto_region 15 with fail
        go_quiet (fail)
        go_wp2_with fail
        go_roundw
        case rel => first | exact HN.out _ | ((repeat apply Exists.intro); exact ⟨HN.out _, rfl⟩)
        case measure => simp [intOf] <;> omega
    · have hdd : DD Y (dd Y) := dd_spec (fun x => S.getD x.toNat 0) Y [] (fun e he => by
        rw [List.append_nil] at he
        exact (HIP.out.good e (HY1.out.mem_iff.1 he)).2.2) (by rw [List.append_nil]; exact HY2.out)
      rw [← HDM.out] at hdd
      have hri : M.Pairwise (fun a b => klt a b = true) := keys_rise hdd.ord (fun j hj => HNS.out j _ _ (by have := HML.out; omega) (List.getElem?_eq_getElem (by omega)) (List.getElem?_eq_getElem hj))
      have HRI := Lib.hid hri
      have HDD := Lib.hid hdd
      clear hri hdd
      have HI6 := Lib.hid (HIP.out.kept HK.out)
      go_upto_region 18 with (go_at_call 11; refine (refSet _ A2 B2 C2 lS lP lQ lS lP lQ n S P Q HI6.out).mono ?_; rintro e w7 ⟨mb, rfl, q1, q2, k7⟩; have HRS := Lib.hid q2; have K7 := Lib.hid (HK.out.trans k7); have K67 := Lib.hid k7; clear q1 q2 k7)
      go_upto_region 19 with (go_at_call 12; refine (zz _ mb A2 lS lS S (ents S P Q n) (HI6.out.kept K67.out).rS HRS.out HI6.out.good (by rw [ents_length]; omega) (by omega)).mono ?_; intro e w8 ho; obtain ⟨g, c8, sp8, R, rfl, g1, g2, k8, g4, g5, g6⟩ := ho; have HG2 := Lib.hid g2; have K8 := Lib.hid (K7.out.trans k8); have HG4 := Lib.hid g4; have HG5 := Lib.hid g5; have HG6 := Lib.hid g6; clear g1 g2 k8 g4 g5 g6)
      have hRM : R.toList = M := same_of_sorted (perm_of_mem HG4.out HDD.out.nodup (fun e => by rw [HG5.out, HDD.out.mem, HY1.out.mem_iff])) (sortedIn_pairwise HG6.out) HRI.out
      have hRl : R.size = m := by rw [HML.out, ← hRM]; simp
      have HRC : Hid (Blk w8 g 40 (flat M ++ sp8)) := Lib.hid (by have := HG2.out; unfold Cells at this; rwa [hRM] at this)
      rw [hRl]
      clear HG2 HG4 HG5 HG6 hRM hRl HRI HDD HNS HRS HI6
      have H1 : Hid (L4 w8 m (.int .i64 0) w8) := Lib.hid ⟨0, rfl, by omega, Kept.refl _⟩
      go_wp2_with fail
      go_loopw [12] (fun t W => L4 w8 m t W) (fun t _ => m - (intOf t).toNat)
      case atStart => exact H1.out
      case round =>
        obtain ⟨j, rfl, j1, hk9⟩ := hrel
        have HK9 := Lib.hid hk9
        clear hk9 H1
        by_cases hj : j < m
        · have hml := HML.out
          obtain ⟨a, ha⟩ : ∃ a, M[j]? = some a := ⟨M[j]'(by omega), List.getElem?_eq_getElem (by omega)⟩
          obtain ⟨a0, a1, a2⟩ := rowCell (HRC.out.kept HK9.out) ha
          obtain ⟨b0, b1, b2⟩ := rowCell (HY3.out.kept (K8.out.trans HK9.out)) ha
          obtain ⟨ax, ay, az⟩ := a
          dsimp only at a0 a1 a2 b0 b1 b2
          clear ha hml
          have i1 : (j : Int) < (m : Int) := by omega
          have i2 : (0 : Int) ≤ (j : Int) := by omega
          have HN : Hid (∀ nq, L4 w8 m (.int .i64 ((j : Int) + 1)) (wr.drewN nq)) := Lib.hid (fun nq => ⟨j + 1, by go_num, by omega, HK9.out.trans ((Kept.refl wr).drewN nq)⟩)
          have e1 : (ax != ax) = false := by simp
          have e2 : (ay != ay) = false := by simp
          have e3 : (az != az) = false := by simp
          go_upto_region 24 with fail
          go_quiet (fail)
          go_wp2_with fail
          go_roundw
          case rel => first | exact HN.out _ | ((repeat apply Exists.intro); exact ⟨HN.out _, rfl⟩)
          case measure => simp [intOf] <;> omega
        · have HF : Hid (Yes w (.returned (.bool true)) wr) := Lib.hid ⟨rfl, (K5.out.trans K8.out).trans HK9.out⟩
          go_wp2_with fail
          go_ret
          exact HF.out
end Go.Proofs.Ytbnkhpbgibgahaa.xa
