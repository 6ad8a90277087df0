/-
  sort.siftDown over this seat's program: the library's plain siftDown on the row.
  Conditions: the range lies in the row.
-/
import Derived.Test.YtbnkhpbgibgahaaWi
namespace Go.Proofs.Ytbnkhpbgibgahaa.so
open Go.ChangeShapes Go.WideShapes Go.ChangeAt Go.RowKit
open kit ms sq fl Go.Sort

def I3 (b n : Nat) (sp : List Value) (w0 : World) (hi first lo : Nat) (d : Array En) (t : Value) (W : World) : Prop :=
  ∃ (r : Nat) (d2 : Array En), lo ≤ r ∧ r ≤ hi ∧ t = .int .i64 (r : Int) ∧ Rw b n sp w0 d2 W ∧ siftDown klt hi first r d2 = siftDown klt hi first lo d

set_option maxRecDepth 100000 in
set_option maxHeartbeats 8000000 in
theorem sift {b n : Nat} {sp : List Value} {rv : Value} (I : Ifc b n sp rv) (w0 w : World) (d : Array En) (lo hi first : Nat) (h : Rw b n sp w0 d w) (h1 : lo ≤ hi) (h2 : first + hi ≤ n) :
    Calls Try.prog 31 #[.iface 35 rv, .int .i64 (lo : Int), .int .i64 (hi : Int), .int .i64 (first : Int)] w (Left b n sp w0 (siftDown klt hi first lo d)) := by
  have m1 := mLess rv
  have m2 := mSwap rv
  have HI := Lib.hid I
  have hsm := I.small
  clear I
  have H1 : Hid (I3 b n sp w0 hi first lo d (.int .i64 (lo : Int)) w) := Lib.hid ⟨lo, d, Nat.le_refl _, h1, rfl, h, rfl⟩
  clear h
  go_enter Try.func31, Try.ntmps31
  go_wp2_with fail
  go_loopw [8, 9] (fun t _ W => I3 b n sp w0 hi first lo d t W) (fun t _ _ => hi - (intOf t).toNat)
  case atStart => exact H1.out
  case round =>
    obtain ⟨r, d2, hr1, hr2, rfl, hR, hE⟩ := hrel
    have HR := Lib.hid hR
    have HE := Lib.hid hE
    clear hR hE H1
    by_cases hend : hi ≤ 2 * r + 1
    · have HF : Hid (siftDown klt hi first lo d = d2) := Lib.hid (by rw [← HE.out, sift_end klt hend])
      clear HE
      go_wp2_with fail
      go_end0
      exact ⟨rfl, by rw [HF.out]; exact HR.out⟩
    · by_cases hg : 2 * r + 2 < hi
      · by_cases hc : klt d2[first + (2 * r + 1)]! d2[first + (2 * r + 2)]! = true
        · have HC := Lib.hid (fun (W : World) (hw : Rw b n sp w0 d2 W) (p q : Int) (hp : p = ((first + (2 * r + 1) : Nat) : Int)) (hq : q = ((first + (2 * r + 2) : Nat) : Int)) => HI.out.lessB true (first + (2 * r + 1)) (first + (2 * r + 2)) hw (by omega) (by omega) hc hp hq)
          have HCC := Lib.hid hc
          clear hc
          by_cases hm : klt d2[first + r]! d2[first + (2 * r + 2)]! = true
          · have HM := Lib.hid (fun (W : World) (hw : Rw b n sp w0 d2 W) (p q : Int) (hp : p = ((first + r : Nat) : Int)) (hq : q = ((first + (2 * r + 2) : Nat) : Int)) => HI.out.lessB true (first + r) (first + (2 * r + 2)) hw (by omega) (by omega) hm hp hq)
            have HS := Lib.hid (sift_r klt hg HCC.out hm)
            clear hm
            go_wp2_with (first
              | (go_at_call 14; refine (HC.out _ HR.out _ _ (by omega) (by omega)).mono ?_; rintro e w2 ⟨rfl, hr, _⟩; have HR2 := Lib.hid hr; clear hr)
              | (go_at_call 14; refine (HM.out _ HR2.out _ _ (by omega) (by omega)).mono ?_; rintro e w3 ⟨rfl, hr, _⟩; have HR3 := Lib.hid hr; clear hr)
              | (go_at_call 54; refine (HI.out.swapB (first + r) (first + (2 * r + 2)) HR3.out (by omega) (by omega) (by omega) (by omega)).mono ?_; rintro e w4 ⟨rfl, hr⟩; have HR4 := Lib.hid hr; clear hr))
            have HN : Hid (I3 b n sp w0 hi first lo d (.int .i64 (2 * (r : Int) + 1 + 1)) w4) := Lib.hid ⟨(2 * r + 2), _, by omega, by omega, by first | rfl | (congr 1; omega), HR4.out, by rw [← HE.out, HS.out]⟩
            go_roundw
            case rel => first | exact HN.out | ((repeat apply Exists.intro); exact ⟨HN.out, rfl⟩)
            case measure => simp [intOf] <;> omega
          · have HM := Lib.hid (fun (W : World) (hw : Rw b n sp w0 d2 W) (p q : Int) (hp : p = ((first + r : Nat) : Int)) (hq : q = ((first + (2 * r + 2) : Nat) : Int)) => HI.out.lessB false (first + r) (first + (2 * r + 2)) hw (by omega) (by omega) (by simpa using hm) hp hq)
            have HF : Hid (siftDown klt hi first lo d = d2) := Lib.hid (by rw [← HE.out]; exact sift_rs klt hg HCC.out (by simpa using hm))
            clear hm HE
            go_wp2_with (first
              | (go_at_call 14; refine (HC.out _ HR.out _ _ (by omega) (by omega)).mono ?_; rintro e w2 ⟨rfl, hr, _⟩; have HR2 := Lib.hid hr; clear hr)
              | (go_at_call 14; refine (HM.out _ HR2.out _ _ (by omega) (by omega)).mono ?_; rintro e w3 ⟨rfl, hr, _⟩; have HR3 := Lib.hid hr; clear hr))
            go_end0
            exact ⟨rfl, by rw [HF.out]; exact HR3.out⟩
        · have HC := Lib.hid (fun (W : World) (hw : Rw b n sp w0 d2 W) (p q : Int) (hp : p = ((first + (2 * r + 1) : Nat) : Int)) (hq : q = ((first + (2 * r + 2) : Nat) : Int)) => HI.out.lessB false (first + (2 * r + 1)) (first + (2 * r + 2)) hw (by omega) (by omega) (by simpa using hc) hp hq)
          have hnc : ¬ (2 * r + 2 < hi ∧ klt d2[first + (2 * r + 1)]! d2[first + (2 * r + 2)]! = true) := fun e => hc e.2
          have HNC := Lib.hid hnc
          clear hnc hc
          by_cases hm : klt d2[first + r]! d2[first + (2 * r + 1)]! = true
          · have HM := Lib.hid (fun (W : World) (hw : Rw b n sp w0 d2 W) (p q : Int) (hp : p = ((first + r : Nat) : Int)) (hq : q = ((first + (2 * r + 1) : Nat) : Int)) => HI.out.lessB true (first + r) (first + (2 * r + 1)) hw (by omega) (by omega) hm hp hq)
            have HS := Lib.hid (sift_l klt (by omega) HNC.out hm)
            clear hm
            go_wp2_with (first
              | (go_at_call 14; refine (HC.out _ HR.out _ _ (by omega) (by omega)).mono ?_; rintro e w2 ⟨rfl, hr, _⟩; have HR2 := Lib.hid hr; clear hr)
              | (go_at_call 14; refine (HM.out _ HR2.out _ _ (by omega) (by omega)).mono ?_; rintro e w3 ⟨rfl, hr, _⟩; have HR3 := Lib.hid hr; clear hr)
              | (go_at_call 54; refine (HI.out.swapB (first + r) (first + (2 * r + 1)) HR3.out (by omega) (by omega) (by omega) (by omega)).mono ?_; rintro e w4 ⟨rfl, hr⟩; have HR4 := Lib.hid hr; clear hr))
            have HN : Hid (I3 b n sp w0 hi first lo d (.int .i64 (2 * (r : Int) + 1)) w4) := Lib.hid ⟨(2 * r + 1), _, by omega, by omega, by first | rfl | (congr 1; omega), HR4.out, by rw [← HE.out, HS.out]⟩
            go_roundw
            case rel => first | exact HN.out | ((repeat apply Exists.intro); exact ⟨HN.out, rfl⟩)
            case measure => simp [intOf] <;> omega
          · have HM := Lib.hid (fun (W : World) (hw : Rw b n sp w0 d2 W) (p q : Int) (hp : p = ((first + r : Nat) : Int)) (hq : q = ((first + (2 * r + 1) : Nat) : Int)) => HI.out.lessB false (first + r) (first + (2 * r + 1)) hw (by omega) (by omega) (by simpa using hm) hp hq)
            have HF : Hid (siftDown klt hi first lo d = d2) := Lib.hid (by rw [← HE.out]; exact sift_ls klt (by omega) HNC.out (by simpa using hm))
            clear hm HE
            go_wp2_with (first
              | (go_at_call 14; refine (HC.out _ HR.out _ _ (by omega) (by omega)).mono ?_; rintro e w2 ⟨rfl, hr, _⟩; have HR2 := Lib.hid hr; clear hr)
              | (go_at_call 14; refine (HM.out _ HR2.out _ _ (by omega) (by omega)).mono ?_; rintro e w3 ⟨rfl, hr, _⟩; have HR3 := Lib.hid hr; clear hr))
            go_end0
            exact ⟨rfl, by rw [HF.out]; exact HR3.out⟩
      · have HNC : Hid (¬ (2 * r + 2 < hi ∧ klt d2[first + (2 * r + 1)]! d2[first + (2 * r + 2)]! = true)) := Lib.hid (fun e => hg e.1)
        by_cases hm : klt d2[first + r]! d2[first + (2 * r + 1)]! = true
        · have HM := Lib.hid (fun (W : World) (hw : Rw b n sp w0 d2 W) (p q : Int) (hp : p = ((first + r : Nat) : Int)) (hq : q = ((first + (2 * r + 1) : Nat) : Int)) => HI.out.lessB true (first + r) (first + (2 * r + 1)) hw (by omega) (by omega) hm hp hq)
          have HS := Lib.hid (sift_l klt (by omega) HNC.out hm)
          clear hm
          go_wp2_with (first
            | (go_at_call 14; refine (HM.out _ HR.out _ _ (by omega) (by omega)).mono ?_; rintro e w3 ⟨rfl, hr, _⟩; have HR3 := Lib.hid hr; clear hr)
            | (go_at_call 54; refine (HI.out.swapB (first + r) (first + (2 * r + 1)) HR3.out (by omega) (by omega) (by omega) (by omega)).mono ?_; rintro e w4 ⟨rfl, hr⟩; have HR4 := Lib.hid hr; clear hr))
          have HN : Hid (I3 b n sp w0 hi first lo d (.int .i64 (2 * (r : Int) + 1)) w4) := Lib.hid ⟨(2 * r + 1), _, by omega, by omega, by first | rfl | (congr 1; omega), HR4.out, by rw [← HE.out, HS.out]⟩
          go_roundw
          case rel => first | exact HN.out | ((repeat apply Exists.intro); exact ⟨HN.out, rfl⟩)
          case measure => simp [intOf] <;> omega
        · have HM := Lib.hid (fun (W : World) (hw : Rw b n sp w0 d2 W) (p q : Int) (hp : p = ((first + r : Nat) : Int)) (hq : q = ((first + (2 * r + 1) : Nat) : Int)) => HI.out.lessB false (first + r) (first + (2 * r + 1)) hw (by omega) (by omega) (by simpa using hm) hp hq)
          have HF : Hid (siftDown klt hi first lo d = d2) := Lib.hid (by rw [← HE.out]; exact sift_ls klt (by omega) HNC.out (by simpa using hm))
          clear hm HE
          go_wp2_with (first
            | (go_at_call 14; refine (HM.out _ HR.out _ _ (by omega) (by omega)).mono ?_; rintro e w3 ⟨rfl, hr, _⟩; have HR3 := Lib.hid hr; clear hr))
          go_end0
          exact ⟨rfl, by rw [HF.out]; exact HR3.out⟩
end Go.Proofs.Ytbnkhpbgibgahaa.so
