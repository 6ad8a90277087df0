/-
  sort.partialInsertionSort over this seat's program: the library's plain function on the row.
  Conditions: the range lies in the row.
-/
import Derived.Test.YtbnkhpbgibgahaaWk
namespace Go.Proofs.Ytbnkhpbgibgahaa.so
open Go.ChangeShapes Go.WideShapes Go.ChangeAt Go.RowKit
open kit ms sq fl Go.Sort

def SS (b n : Nat) (sp : List Value) (w0 : World) (d : Array En) (y i0 : Nat) (t : Value) (W : World) : Prop :=
  ∃ i, i0 ≤ i ∧ i ≤ y ∧ t = .int .i64 (i : Int) ∧ Rw b n sp w0 d W ∧ scanSorted klt d y i = scanSorted klt d y i0
def SDn (b n : Nat) (sp : List Value) (w0 : World) (d : Array En) (y j0 : Nat) (t : Value) (W : World) : Prop :=
  ∃ j d2, j ≤ j0 ∧ j < y ∧ t = .int .i64 (j : Int) ∧ Rw b n sp w0 d2 W ∧ shiftDown klt j d2 = shiftDown klt j0 d
def SUp (b n : Nat) (sp : List Value) (w0 : World) (d : Array En) (y j0 : Nat) (t : Value) (W : World) : Prop :=
  ∃ j d2, j0 ≤ j ∧ j ≤ y ∧ t = .int .i64 (j : Int) ∧ Rw b n sp w0 d2 W ∧ shiftUp klt y j d2 = shiftUp klt y j0 d
def SO (b n : Nat) (sp : List Value) (w0 : World) (x y : Nat) (R : Array En × Bool) (t u : Value) (W : World) : Prop :=
  ∃ (s i : Nat) (z : Int) (d : Array En), s ≤ 5 ∧ x + 1 ≤ i ∧ i ≤ y ∧ t = .int .i64 (i : Int) ∧ u = .int .i64 z ∧ z = 5 - (s : Int) ∧ Rw b n sp w0 d W ∧ partialIns klt x y s i d = R
def Told (b n : Nat) (sp : List Value) (w0 : World) (R : Array En × Bool) (e : Ending) (w : World) : Prop := e = .returned (.bool R.2) ∧ Rw b n sp w0 R.1 w
/-- the shifts behind a swap -/
def shiftD (x i : Nat) (d : Array En) : Array En := if i - x ≥ 2 then shiftDown klt (i - 1) d else d
def shiftU (y i : Nat) (d : Array En) : Array En := if y - i ≥ 2 then shiftUp klt y (i + 1) d else d
theorem pi_full {x y s i : Nat} {d : Array En} (h : scanSorted klt d y i = y) : partialIns klt x y (s + 1) i d = (d, true) := by
  rw [partialIns]
  exact if_pos h
theorem pi_short {x y s i j : Nat} {d : Array En} (h : scanSorted klt d y i = j) (h2 : j ≠ y) (h3 : y - x < 50) : partialIns klt x y (s + 1) i d = (d, false) := by
  subst h
  rw [partialIns]
  exact (if_neg h2).trans (if_pos h3)
theorem pi_step {x y s i j : Nat} {d : Array En} (h : scanSorted klt d y i = j) (h2 : j ≠ y) (h3 : ¬ y - x < 50) : partialIns klt x y (s + 1) i d = partialIns klt x y s j (shiftU y j (shiftD x j (swp d j (j - 1)))) := by
  subst h
  rw [partialIns]
  exact (if_neg h2).trans (if_neg h3)

set_option maxRecDepth 100000 in
set_option maxHeartbeats 8000000 in
theorem partIns {b n : Nat} {sp : List Value} {rv : Value} (I : Ifc b n sp rv) (w0 w : World) (d : Array En) (x y : Nat) (h : Rw b n sp w0 d w) (hxy : x < y) (hy : y ≤ n) :
    Calls Try.prog 28 #[.iface 35 rv, .int .i64 (x : Int), .int .i64 (y : Int)] w (Told b n sp w0 (partialInsertionSort klt d x y)) := by
  have m1 := mLess rv
  have m2 := mSwap rv
  have HI := Lib.hid I
  have hsm := I.small
  clear I
  obtain ⟨R, hR⟩ : ∃ R, partialInsertionSort klt d x y = R := ⟨_, rfl⟩
  have H1 : Hid (SO b n sp w0 x y R (.int .i64 ((x : Int) + 1)) (.int .i64 0) w) := Lib.hid ⟨5, x + 1, 0, d, Nat.le_refl _, Nat.le_refl _, hxy, by go_num, rfl, by omega, h, hR⟩
  rw [hR]
  clear h hR
  go_enter Try.func28, Try.ntmps28
  go_wp2_with fail
  go_loopw [7, 8, 9, 10] (fun t u _ _ W => SO b n sp w0 x y R t u W) (fun _ u _ _ _ => (5 - intOf u).toNat)
  case atStart => exact H1.out
  case round =>
    obtain ⟨s, i, z, d2, h5, i1, i2, rfl, rfl, hz, hR, hE⟩ := hrel
    have HR := Lib.hid hR
    have HE := Lib.hid hE
    clear hR hE H1
    rcases s with _ | s
    · have hz1 : ¬ z < 5 := by omega
      have HX : Hid (R = (d2, false)) := Lib.hid HE.out.symm
      clear hz HE
      go_wp2_with fail
      go_ret
      exact ⟨by rw [HX.out]; rfl, by rw [HX.out]; exact HR.out⟩
    · have hz1 : z < 5 := by omega
      have hz2 : 0 ≤ z := by omega
      have HZ := Lib.hid hz
      clear hz
      obtain ⟨j, hj⟩ : ∃ j, scanSorted klt d2 y i = j := ⟨_, rfl⟩
      have HJ := Lib.hid hj
      clear hj
      go_upto_block 2 with fail
      go_cut [7] from 13 to 84 (fun t W => t = .int .i64 (j : Int) ∧ (i ≤ j ∧ j ≤ y) ∧ Hid (Rw b n sp w0 d2 W))
      case first =>
        have HS0 : Hid (SS b n sp w0 d2 y i (.int .i64 (i : Int)) wr) := Lib.hid ⟨i, Nat.le_refl _, i2, rfl, HR.out, rfl⟩
        go_wp2_with fail
        go_loopw [7] (fun t W => SS b n sp w0 d2 y i t W) (fun t _ => y - (intOf t).toNat)
        case atStart => exact HS0.out
        case round =>
          obtain ⟨k, k1, k2, rfl, hR9, hE9⟩ := hrel
          have HR9 := Lib.hid hR9
          have HE9 := Lib.hid hE9
          clear hR9 hE9 HS0
          by_cases hk : k < y
          · by_cases hl : klt d2[k]! d2[k - 1]! = false
            · have HL9 := Lib.hid (fun (W : World) (hw : Rw b n sp w0 d2 W) (p q : Int) (hp : p = ((k : Nat) : Int)) (hq : q = ((k - 1 : Nat) : Int)) => HI.out.lessB false (k) (k - 1) hw (by omega) (by omega) hl hp hq)
              have HT9 := Lib.hid (ss_step klt hk hl)
              clear hl
              go_wp2_with (first
                | (go_at_call 14; refine (HL9.out _ HR9.out _ _ (by omega) (by omega)).mono ?_; rintro e w9 ⟨rfl, hr, _⟩; have HQ9 := Lib.hid hr; clear hr))
              have HN9 : Hid (SS b n sp w0 d2 y i (.int .i64 ((k : Int) + 1)) w9) := Lib.hid ⟨k + 1, by omega, by omega, by go_num, HQ9.out, by rw [← HE9.out, HT9.out]⟩
              clear HL9 HT9 HE9 HR9 HQ9
              go_roundw
              case rel => first | exact HN9.out | ((repeat apply Exists.intro); exact ⟨HN9.out, rfl⟩)
              case measure => simp [intOf] <;> omega
            · have HL9 := Lib.hid (fun (W : World) (hw : Rw b n sp w0 d2 W) (p q : Int) (hp : p = ((k : Nat) : Int)) (hq : q = ((k - 1 : Nat) : Int)) => HI.out.lessB true (k) (k - 1) hw (by omega) (by omega) (by simpa using hl) hp hq)
              have HT9 := Lib.hid (ss_stop (b := y) (i := k) klt (.inr (show klt d2[k]! d2[k - 1]! = true by simpa using hl)))
              clear hl
              go_wp2_with (first
                | (go_at_call 14; refine (HL9.out _ HR9.out _ _ (by omega) (by omega)).mono ?_; rintro e w9 ⟨rfl, hr, _⟩; have HQ9 := Lib.hid hr; clear hr))
              obtain rfl : j = k := by rw [← HJ.out, ← HE9.out, HT9.out]
              go_meet
              exact ⟨by first | rfl | go_num, ⟨by omega, by omega⟩, HQ9⟩
          · have HT9 := Lib.hid (ss_stop (b := y) (i := k) (d := d2) klt (.inl (by omega)))
            go_wp2_with fail
            obtain rfl : j = k := by rw [← HJ.out, ← HE9.out, HT9.out]
            go_meet
            exact ⟨by first | rfl | go_num, ⟨by omega, by omega⟩, HR9⟩
      case rest =>
        obtain ⟨rfl, ⟨j1, j2⟩, HR2⟩ := hcut
        obtain ⟨w2, hw2⟩ : ∃ w2, w2 = wc := ⟨_, rfl⟩
        subst hw2
        clear HR
        by_cases hjy : j = y
        · have HX : Hid (R = (d2, true)) := Lib.hid (by rw [← HE.out]; exact pi_full (HJ.out.trans hjy))
          subst hjy
          clear HE HJ
          go_wp2_with fail
          go_ret
          exact ⟨by rw [HX.out]; rfl, by rw [HX.out]; exact HR2.out⟩
        · have hjb : ((j : Int) == (y : Int)) = false := by simp; omega
          have hjb2 : decide ((j : Int) = (y : Int)) = false := by simp; omega
          by_cases h50 : y - x < 50
          · have HX : Hid (R = (d2, false)) := Lib.hid (by rw [← HE.out]; exact pi_short HJ.out hjy h50)
            clear HE HJ
            go_wp2_with fail
            go_ret
            exact ⟨by rw [HX.out]; rfl, by rw [HX.out]; exact HR2.out⟩
          · have h51 : decide ((y : Int) - (x : Int) < 50) = false := by simp; omega
            have HX : Hid (partialIns klt x y s j (shiftU y j (shiftD x j (swp d2 j (j - 1)))) = R) := Lib.hid (by rw [← HE.out]; exact (pi_step HJ.out hjy h50).symm)
            clear HE HJ
            obtain ⟨da, hda⟩ : ∃ da, swp d2 j (j - 1) = da := ⟨_, rfl⟩
            rw [hda] at HX
            have HDA := Lib.hid hda
            clear hda
            obtain ⟨db, hdb⟩ : ∃ db, shiftD x j da = db := ⟨_, rfl⟩
            rw [hdb] at HX
            have HDB := Lib.hid hdb
            clear hdb
            obtain ⟨dc, hdc⟩ : ∃ dc, shiftU y j db = dc := ⟨_, rfl⟩
            rw [hdc] at HX
            have HDC := Lib.hid hdc
            clear hdc
            go_upto_if 45 with (first
              | (go_at_call 54; refine (HI.out.swapB (j) (j - 1) HR2.out (by omega) (by omega) (by omega) (by omega)).mono ?_; rintro e w3 ⟨rfl, hr⟩; rw [HDA.out] at hr; have HR3 := Lib.hid hr; clear hr))
            go_cut [9] from 13 to 84 (fun _ W => Hid (Rw b n sp w0 db W))
            case first =>
              by_cases hg : j - x ≥ 2
              · have h52 : decide ((2 : Int) ≤ (j : Int) - (x : Int)) = true := by simp; omega
                rw [h52]
                have HB : Hid (shiftDown klt (j - 1) da = db) := Lib.hid (by rw [← HDB.out]; exact (if_pos hg).symm)
                have HS0 : Hid (SDn b n sp w0 da y (j - 1) (.int .i64 ((j : Int) - 1)) w3) := Lib.hid ⟨j - 1, da, Nat.le_refl _, by omega, by congr 1; omega, HR3.out, rfl⟩
                clear HR2
                go_wp2_with fail
                go_loopw [9] (fun t W => SDn b n sp w0 da y (j - 1) t W) (fun t _ => (intOf t).toNat)
                case atStart => exact HS0.out
                case round =>
                  obtain ⟨k, d4, k1, k2, rfl, hR9, hE9⟩ := hrel
                  have HR9 := Lib.hid hR9
                  have HE9 := Lib.hid hE9
                  clear hR9 hE9 HS0
                  rcases k with _ | k
                  · obtain rfl : db = d4 := by rw [← HB.out, ← HE9.out]; rfl
                    go_wp2_with fail
                    go_meet
                    exact HR9
                  · by_cases hl : klt d4[k + 1]! d4[k]! = true
                    · have HL9 := Lib.hid (fun (W : World) (hw : Rw b n sp w0 d4 W) (p q : Int) (hp : p = ((k + 1 : Nat) : Int)) (hq : q = ((k : Nat) : Int)) => HI.out.lessB true (k + 1) (k) hw (by omega) (by omega) hl hp hq)
                      have HT9 := Lib.hid (sd_step klt hl)
                      clear hl
                      go_wp2_with (first
                        | (go_at_call 14; refine (HL9.out _ HR9.out _ _ (by omega) (by omega)).mono ?_; rintro e w9 ⟨rfl, hr, _⟩; have HQ9 := Lib.hid hr; clear hr)
                        | (go_at_call 54; refine (HI.out.swapB (k + 1) (k) HQ9.out (by omega) (by omega) (by omega) (by omega)).mono ?_; rintro e w10 ⟨rfl, hr⟩; have HQ10 := Lib.hid hr; clear hr))
                      have HN9 : Hid (SDn b n sp w0 da y (j - 1) (.int .i64 (k : Int)) w10) := Lib.hid ⟨k, _, by omega, by omega, rfl, HQ10.out, by rw [← HE9.out, HT9.out]⟩
                      clear HL9 HT9 HE9 HR9 HQ9
                      go_roundw
                      case rel => first | exact HN9.out | ((repeat apply Exists.intro); exact ⟨HN9.out, rfl⟩)
                      case measure => simp [intOf] <;> omega
                    · have HL9 := Lib.hid (fun (W : World) (hw : Rw b n sp w0 d4 W) (p q : Int) (hp : p = ((k + 1 : Nat) : Int)) (hq : q = ((k : Nat) : Int)) => HI.out.lessB false (k + 1) (k) hw (by omega) (by omega) (by simpa using hl) hp hq)
                      have HT9 := Lib.hid (sd_stop klt (show klt d4[k + 1]! d4[k]! = false by simpa using hl))
                      clear hl
                      go_wp2_with (first
                        | (go_at_call 14; refine (HL9.out _ HR9.out _ _ (by omega) (by omega)).mono ?_; rintro e w9 ⟨rfl, hr, _⟩; have HQ9 := Lib.hid hr; clear hr))
                      obtain rfl : db = d4 := by rw [← HB.out, ← HE9.out, HT9.out]
                      go_meet
                      exact HQ9
              · obtain rfl : db = da := by rw [← HDB.out]; exact if_neg hg
                go_wp2_with fail
                go_meet
                exact HR3
            case rest =>
              have HR4 : Hid (Rw b n sp w0 db wc) := hcut
              obtain ⟨w4, hw4⟩ : ∃ w4, w4 = wc := ⟨_, rfl⟩
              subst hw4
              clear hcut HR2 HR3 HDB HDA
              by_cases hg : y - j ≥ 2
              · have h52 : decide ((2 : Int) ≤ (y : Int) - (j : Int)) = true := by simp; omega
                have h53 : decide ((y : Int) - (j : Int) ≥ 2) = true := by simp; omega
                have HB : Hid (shiftUp klt y (j + 1) db = dc) := Lib.hid (by rw [← HDC.out]; exact (if_pos hg).symm)
                have HS0 : Hid (SUp b n sp w0 db y (j + 1) (.int .i64 ((j : Int) + 1)) w4) := Lib.hid ⟨j + 1, db, Nat.le_refl _, by omega, by go_num, HR4.out, rfl⟩
                go_wp2_with fail
                go_loopw [10] (fun t W => SUp b n sp w0 db y (j + 1) t W) (fun t _ => y - (intOf t).toNat)
                case atStart => exact HS0.out
                case round =>
                  obtain ⟨k, d4, k1, k2, rfl, hR9, hE9⟩ := hrel
                  have HR9 := Lib.hid hR9
                  have HE9 := Lib.hid hE9
                  clear hR9 hE9 HS0
                  by_cases hk : k < y
                  · by_cases hl : klt d4[k]! d4[k - 1]! = true
                    · have HL9 := Lib.hid (fun (W : World) (hw : Rw b n sp w0 d4 W) (p q : Int) (hp : p = ((k : Nat) : Int)) (hq : q = ((k - 1 : Nat) : Int)) => HI.out.lessB true (k) (k - 1) hw (by omega) (by omega) hl hp hq)
                      have HT9 := Lib.hid (su_step klt hk hl)
                      clear hl
                      go_wp2_with (first
                        | (go_at_call 14; refine (HL9.out _ HR9.out _ _ (by omega) (by omega)).mono ?_; rintro e w9 ⟨rfl, hr, _⟩; have HQ9 := Lib.hid hr; clear hr)
                        | (go_at_call 54; refine (HI.out.swapB (k) (k - 1) HQ9.out (by omega) (by omega) (by omega) (by omega)).mono ?_; rintro e w10 ⟨rfl, hr⟩; have HQ10 := Lib.hid hr; clear hr))
                      have HN9 : Hid (SUp b n sp w0 db y (j + 1) (.int .i64 ((k : Int) + 1)) w10) := Lib.hid ⟨k + 1, _, by omega, by omega, by go_num, HQ10.out, by rw [← HE9.out, HT9.out]⟩
                      clear HL9 HT9 HE9 HR9 HQ9
                      go_roundw
                      case rel => first | exact HN9.out | ((repeat apply Exists.intro); exact ⟨HN9.out, rfl⟩)
                      case measure => simp [intOf] <;> omega
                    · have HL9 := Lib.hid (fun (W : World) (hw : Rw b n sp w0 d4 W) (p q : Int) (hp : p = ((k : Nat) : Int)) (hq : q = ((k - 1 : Nat) : Int)) => HI.out.lessB false (k) (k - 1) hw (by omega) (by omega) (by simpa using hl) hp hq)
                      have HT9 := Lib.hid (su_stop (b := y) (j := k) klt (.inr (show klt d4[k]! d4[k - 1]! = false by simpa using hl)))
                      clear hl
                      obtain rfl : dc = d4 := by rw [← HB.out, ← HE9.out, HT9.out]
                      go_wp2_with (first
                        | (go_at_call 14; refine (HL9.out _ HR9.out _ _ (by omega) (by omega)).mono ?_; rintro e w9 ⟨rfl, hr, _⟩; have HQ9 := Lib.hid hr; clear hr))
                      have HN : Hid (SO b n sp w0 x y R (.int .i64 (j : Int)) (.int .i64 (z + 1)) w9) := Lib.hid ⟨s, j, z + 1, dc, by omega, by omega, by omega, rfl, rfl, by have := HZ.out; omega, HQ9.out, HX.out⟩
                      clear HR4 HDC HX HZ
                      go_roundw
                      case rel => first | exact HN.out | ((repeat apply Exists.intro); exact ⟨HN.out, rfl⟩)
                      case measure => simp [intOf] <;> omega
                  · obtain rfl : dc = d4 := by rw [← HB.out, ← HE9.out, su_stop klt (.inl (by omega))]
                    have HN : Hid (SO b n sp w0 x y R (.int .i64 (j : Int)) (.int .i64 (z + 1)) wr) := Lib.hid ⟨s, j, z + 1, dc, by omega, by omega, by omega, rfl, rfl, by have := HZ.out; omega, HR9.out, HX.out⟩
                    clear HR4 HDC HX HZ
                    go_wp2_with fail
                    go_roundw
                    case rel => first | exact HN.out | ((repeat apply Exists.intro); exact ⟨HN.out, rfl⟩)
                    case measure => simp [intOf] <;> omega
              · obtain rfl : dc = db := by rw [← HDC.out]; exact if_neg hg
                have HN : Hid (SO b n sp w0 x y R (.int .i64 (j : Int)) (.int .i64 (z + 1)) w4) := Lib.hid ⟨s, j, z + 1, dc, by omega, by omega, by omega, rfl, rfl, by have := HZ.out; omega, HR4.out, HX.out⟩
                clear HR4 HDC HX HZ
                go_wp2_with fail
                go_roundw
                case rel => first | exact HN.out | ((repeat apply Exists.intro); exact ⟨HN.out, rfl⟩)
                case measure => simp [intOf] <;> omega
end Go.Proofs.Ytbnkhpbgibgahaa.so
