/-
  sort.heapSort and sort.reverseRange over this seat's program: the library's plain functions on the row.
  Conditions: the range lies in the row.
-/
import Derived.Test.YtbnkhpbgibgahaaWj
namespace Go.Proofs.Ytbnkhpbgibgahaa.so
open Go.ChangeShapes Go.WideShapes Go.ChangeAt Go.RowKit
open kit ms sq fl Go.Sort

def I4 (b n : Nat) (sp : List Value) (w0 : World) (L a K : Nat) (d : Array En) (t : Value) (W : World) : Prop :=
  ∃ (k : Nat) (z : Int) (d2 : Array En), k ≤ K ∧ t = .int .i64 z ∧ z = (k : Int) - 1 ∧ Rw b n sp w0 d2 W ∧ heapBuild klt L a k d2 = heapBuild klt L a K d
def I5 (b n : Nat) (sp : List Value) (w0 : World) (a K : Nat) (d : Array En) (t : Value) (W : World) : Prop :=
  ∃ (k : Nat) (z : Int) (d2 : Array En), k ≤ K ∧ t = .int .i64 z ∧ z = (k : Int) - 1 ∧ Rw b n sp w0 d2 W ∧ heapPop klt a k d2 = heapPop klt a K d
def I6 (b n : Nat) (sp : List Value) (w0 : World) (x y : Nat) (d : Array En) (t u : Value) (W : World) : Prop :=
  ∃ (i j : Nat) (d2 : Array En), x ≤ i ∧ i ≤ y ∧ j ≤ y ∧ t = .int .i64 (i : Int) ∧ u = .int .i64 (j : Int) ∧ Rw b n sp w0 d2 W ∧ reverseLoop i j d2 = reverseLoop x y d

set_option maxRecDepth 100000 in
set_option maxHeartbeats 8000000 in
theorem heap {b n : Nat} {sp : List Value} {rv : Value} (I : Ifc b n sp rv) (w0 w : World) (d : Array En) (x y : Nat) (h : Rw b n sp w0 d w) (hxy : x < y) (hy : y ≤ n) :
    Calls Try.prog 24 #[.iface 35 rv, .int .i64 (x : Int), .int .i64 (y : Int)] w (Left b n sp w0 (heapSort klt d x y)) := by
  obtain ⟨L, rfl⟩ : ∃ L, y = x + L := ⟨y - x, by omega⟩
  have m1 := mLess rv
  have m2 := mSwap rv
  have HI := Lib.hid I
  have hsm := I.small
  clear I
  obtain ⟨K, hK⟩ : ∃ K, K = (L - 1) / 2 + 1 := ⟨_, rfl⟩
  have H1 : Hid (I4 b n sp w0 L x K d (.int .i64 ((K : Int) - 1)) w) := Lib.hid ⟨K, _, d, Nat.le_refl _, rfl, rfl, h, rfl⟩
  have HF : Hid (heapSort klt d x (x + L) = heapPop klt x L (heapBuild klt L x K d)) := Lib.hid (by unfold heapSort; rw [show x + L - x = L by omega, hK])
  have hq : ((L : Int) - 1).tdiv 2 = (K : Int) - 1 := by
    rw [Int.tdiv_eq_ediv_of_nonneg (by omega)]
    omega
  have hK1 : 1 ≤ K := by omega
  have hK2 : K ≤ L := by omega
  have hs1 : (x : Int) + (L : Int) - (x : Int) = (L : Int) := by omega
  clear h hK
  rw [show ((x + L : Nat) : Int) = (x : Int) + (L : Int) by omega]
  go_enter Try.func24, Try.ntmps24
  go_wp2_with fail
  go_loopw [9] (fun t W => I4 b n sp w0 L x K d t W) (fun t _ => (intOf t + 1).toNat)
  case atStart => exact H1.out
  case round =>
    obtain ⟨k, z, d2, hk, rfl, hz, hR, hE⟩ := hrel
    have HR := Lib.hid hR
    have HE := Lib.hid hE
    clear hR hE H1
    rcases k with _ | k
    · have hz1 : z < 0 := by omega
      clear hz
      have HE2 : Hid (heapBuild klt L x K d = d2) := Lib.hid HE.out.symm
      clear HE
      have H2 : Hid (I5 b n sp w0 x L d2 (.int .i64 ((L : Int) - 1)) wr) := Lib.hid ⟨L, _, d2, Nat.le_refl _, rfl, rfl, HR.out, rfl⟩
      clear HR
      go_wp2_with fail
      go_loopw [10] (fun t W => I5 b n sp w0 x L d2 t W) (fun t _ => (intOf t + 1).toNat)
      case atStart => exact H2.out
      case round =>
        obtain ⟨k, z, d3, hk, rfl, hz, hR, hE⟩ := hrel
        have HR := Lib.hid hR
        have HE := Lib.hid hE
        clear hR hE H2
        rcases k with _ | k
        · have hz1 : z < 0 := by omega
          clear hz
          go_wp2_with fail
          go_end0
          exact ⟨rfl, by rw [HF.out, HE2.out, ← HE.out]; exact HR.out⟩
        · obtain rfl : z = (k : Int) := by omega
          clear hz
          go_wp2_with (first
            | (go_at_call 54; refine (HI.out.swapB (x) (x + k) HR.out (by omega) (by omega) (by omega) (by omega)).mono ?_; rintro e w2 ⟨rfl, hr⟩; have HR2 := Lib.hid hr; clear hr)
            | (go_at_call 31; refine (sift HI.out w0 _ _ 0 k x HR2.out (by omega) (by omega)).mono ?_; rintro e w3 ⟨rfl, hr⟩; have HR3 := Lib.hid hr; clear hr))
          have HN : Hid (I5 b n sp w0 x L d2 (.int .i64 ((k : Int) - 1)) w3) := Lib.hid ⟨k, _, _, by omega, rfl, rfl, HR3.out, by rw [← HE.out]; rfl⟩
          go_roundw
          case rel => first | exact HN.out | ((repeat apply Exists.intro); exact ⟨HN.out, rfl⟩)
          case measure => simp [intOf] <;> omega
    · obtain rfl : z = (k : Int) := by omega
      clear hz
      go_wp2_with (first
        | (go_at_call 31; refine (sift HI.out w0 _ _ k L x HR.out (by omega) (by omega)).mono ?_; rintro e w3 ⟨rfl, hr⟩; have HR3 := Lib.hid hr; clear hr))
      have HN : Hid (I4 b n sp w0 L x K d (.int .i64 ((k : Int) - 1)) w3) := Lib.hid ⟨k, _, _, by omega, rfl, rfl, HR3.out, by rw [← HE.out]; rfl⟩
      go_roundw
      case rel => first | exact HN.out | ((repeat apply Exists.intro); exact ⟨HN.out, rfl⟩)
      case measure => simp [intOf] <;> omega

set_option maxRecDepth 100000 in
set_option maxHeartbeats 8000000 in
theorem reverse {b n : Nat} {sp : List Value} {rv : Value} (I : Ifc b n sp rv) (w0 w : World) (d : Array En) (x y : Nat) (h : Rw b n sp w0 d w) (hxy : x < y) (hy : y ≤ n) :
    Calls Try.prog 27 #[.iface 35 rv, .int .i64 (x : Int), .int .i64 (y : Int)] w (Left b n sp w0 (reverseRange d x y)) := by
  obtain ⟨y, rfl⟩ : ∃ y0, y = y0 + 1 := ⟨y - 1, by omega⟩
  have m1 := mLess rv
  have m2 := mSwap rv
  have HI := Lib.hid I
  have hsm := I.small
  clear I
  have H1 : Hid (I6 b n sp w0 x y d (.int .i64 (x : Int)) (.int .i64 (y : Int)) w) := Lib.hid ⟨x, y, d, Nat.le_refl _, by omega, Nat.le_refl _, rfl, rfl, h, rfl⟩
  have HF : Hid (reverseRange d x (y + 1) = reverseLoop x y d) := Lib.hid rfl
  clear h
  rw [show ((y + 1 : Nat) : Int) = (y : Int) + 1 by omega]
  go_enter Try.func27, Try.ntmps27
  go_wp2_with fail
  go_loopw [6, 7] (fun t u W => I6 b n sp w0 x y d t u W) (fun t _ _ => y - (intOf t).toNat)
  case atStart => exact H1.out
  case round =>
    obtain ⟨i, j, d2, hi, hi2, hj, rfl, rfl, hR, hE⟩ := hrel
    have HR := Lib.hid hR
    have HE := Lib.hid hE
    clear hR hE H1
    by_cases hlt : i < j
    · obtain ⟨j, rfl⟩ : ∃ j0, j = j0 + 1 := ⟨j - 1, by omega⟩
      rw [show ((j + 1 : Nat) : Int) = (j : Int) + 1 by omega]
      go_wp2_with (first
        | (go_at_call 54; refine (HI.out.swapB (i) (j + 1) HR.out (by omega) (by omega) (by omega) (by omega)).mono ?_; rintro e w2 ⟨rfl, hr⟩; have HR2 := Lib.hid hr; clear hr))
      have HN : Hid (I6 b n sp w0 x y d (.int .i64 ((i : Int) + 1)) (.int .i64 (j : Int)) w2) := Lib.hid ⟨i + 1, j, _, by omega, by omega, by omega, by go_num, rfl, HR2.out, by rw [← HE.out, rv_step hlt]; rfl⟩
      go_roundw
      case rel => first | exact HN.out | ((repeat apply Exists.intro); exact ⟨HN.out, rfl⟩)
      case measure => simp [intOf] <;> omega
    · have HE2 : Hid (reverseRange d x (y + 1) = d2) := Lib.hid (by rw [HF.out, ← HE.out, rv_stop (by omega)])
      go_wp2_with fail
      go_end0
      exact ⟨rfl, by rw [HE2.out]; exact HR.out⟩
end Go.Proofs.Ytbnkhpbgibgahaa.so
