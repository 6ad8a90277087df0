/-
  sort.partitionEqual over this seat's program: the library's plain partitionEqual on the row.
  Conditions: the range lies in the row.
-/
import Derived.Test.YtbnkhpbgibgahaaWk
namespace Go.Proofs.Ytbnkhpbgibgahaa.so
open Go.ChangeShapes Go.WideShapes Go.ChangeAt Go.RowKit
open kit ms sq fl Go.Sort

set_option maxRecDepth 100000 in
set_option maxHeartbeats 8000000 in
theorem partEq {b n : Nat} {sp : List Value} {rv : Value} (I : Ifc b n sp rv) (w0 w : World) (d : Array En) (x m p : Nat) (h : Rw b n sp w0 d w) (h1 : x ≤ p) (h2 : p ≤ m) (h0 : x < m) (hy : m < n) :
    Calls Try.prog 29 #[.iface 35 rv, .int .i64 (x : Int), .int .i64 ((m : Int) + 1), .int .i64 (p : Int)] w (PartedEq b n sp w0 (partitionEqual klt d x (m + 1) p)) := by
  have m1 := mLess rv
  have m2 := mSwap rv
  have HI := Lib.hid I
  have hsm := I.small
  clear I
  have HR := Lib.hid h
  clear h
  obtain ⟨R, hR⟩ : ∃ R, partitionEqual klt d x (m + 1) p = R := ⟨_, rfl⟩
  have HPR : Hid (partEqLoop klt x (x + 1) m (swp d x p) = R) := Lib.hid hR
  rw [hR]
  clear hR
  go_enter Try.func29, Try.ntmps29
  go_upto_block 0 with (first
    | (go_at_call 54; refine (HI.out.swapB (x) (p) HR.out (by omega) (by omega) (by omega) (by omega)).mono ?_; rintro e w5 ⟨rfl, hr⟩; have HR5 := Lib.hid hr; clear hr))
  have HL0 : Hid (SP b n sp w0 x (m + 1) (partEqLoop klt x) R (.int .i64 ((x : Int) + 1)) (.int .i64 (m : Int)) w5) := Lib.hid ⟨x + 1, m, _, by omega, by omega, by omega, by omega, by go_num, rfl, HR5.out, HPR.out⟩
  clear HR HR5 HPR
  go_wp2_with fail
  go_loopw [9, 10] (fun t u W => SP b n sp w0 x (m + 1) (partEqLoop klt x) R t u W) (fun t u _ => (intOf u + 1 - intOf t).toNat)
  case atStart => exact HL0.out
  case round =>
    obtain ⟨i3, j3, d3, p1, p2, p3, p4, rfl, rfl, hR, hE⟩ := hrel
    have HR6 := Lib.hid hR
    have HE6 := Lib.hid hE
    clear hR hE HL0
    obtain ⟨i4, hi4⟩ : ∃ i4, scanUp (fun e => !klt d3[x]! e) d3 j3 i3 = i4 := ⟨_, rfl⟩
    have Hi4 := Lib.hid hi4
    clear hi4
    go_upto_block 2 with fail
    go_cut [9] from 19 to 52 (fun t W => t = .int .i64 (i4 : Int) ∧ (i3 ≤ i4 ∧ i4 ≤ m + 1) ∧ Hid (Rw b n sp w0 d3 W))
    case first =>
      have HS0 : Hid (SU b n sp w0 (fun e => !klt d3[x]! e) d3 x (m + 1) j3 i3 (.int .i64 (i3 : Int)) _) := Lib.hid ⟨i3, by omega, by omega, by omega, rfl, HR6.out, rfl⟩
      go_wp2_with fail
      go_loopw [9] (fun t W => SU b n sp w0 (fun e => !klt d3[x]! e) d3 x (m + 1) j3 i3 t W) (fun t _ => m + 1 - (intOf t).toNat)
      case atStart => first | exact HS0.out | (obtain ⟨i9, g1, g2, g3, g4, g5, g6⟩ := HS0.out; exact ⟨i9, g1, g2, g3, by rw [← g4] <;> congr 1 <;> omega, g5, g6⟩)
      case round =>
        obtain ⟨i9, q1, q2, q3, rfl, hR9, hE9⟩ := hrel
        have HR9 := Lib.hid hR9
        have HE9 := Lib.hid hE9
        clear hR9 hE9 HS0
        by_cases hc9 : i9 ≤ j3
        · by_cases hl9 : klt d3[x]! d3[i9]! = false
          · have HL9 := Lib.hid (fun (W : World) (hw : Rw b n sp w0 d3 W) (p q : Int) (hp : p = ((x : Nat) : Int)) (hq : q = ((i9 : Nat) : Int)) => HI.out.lessB false (x) (i9) hw (by omega) (by omega) hl9 hp hq)
            have HT9 := Lib.hid (up_step (p := (fun e => !klt d3[x]! e)) (d := d3) hc9 (by simp [hl9]))
            clear hl9
            go_wp2_with (first
              | (go_at_call 14; refine (HL9.out _ HR9.out _ _ (by omega) (by omega)).mono ?_; rintro e w9 ⟨rfl, hr, _⟩; have HQ9 := Lib.hid hr; clear hr))
            have HN9 : Hid (SU b n sp w0 (fun e => !klt d3[x]! e) d3 x (m + 1) j3 i3 (.int .i64 ((i9 : Int) + 1)) w9) := Lib.hid ⟨i9 + 1, by omega, by omega, by omega, by go_num, HQ9.out, by rw [← HE9.out, HT9.out]⟩
            clear HL9 HT9 HE9 HR9 HQ9
            go_roundw
            case rel => first | exact HN9.out | ((repeat apply Exists.intro); exact ⟨HN9.out, rfl⟩)
            case measure => simp [intOf] <;> omega
          · have HL9 := Lib.hid (fun (W : World) (hw : Rw b n sp w0 d3 W) (p q : Int) (hp : p = ((x : Nat) : Int)) (hq : q = ((i9 : Nat) : Int)) => HI.out.lessB true (x) (i9) hw (by omega) (by omega) (by simpa using hl9) hp hq)
            have HT9 := Lib.hid (up_stop (p := (fun e => !klt d3[x]! e)) (d := d3) (j := j3) (i := i9) (.inr (by simpa using hl9)))
            clear hl9
            go_wp2_with (first
              | (go_at_call 14; refine (HL9.out _ HR9.out _ _ (by omega) (by omega)).mono ?_; rintro e w9 ⟨rfl, hr, _⟩; have HQ9 := Lib.hid hr; clear hr))
            obtain rfl : i4 = i9 := by rw [← Hi4.out, ← HE9.out, HT9.out]
            go_meet
            exact ⟨by first | rfl | go_num, ⟨by omega, by omega⟩, HQ9⟩
        · have HT9 := Lib.hid (up_stop (p := (fun e => !klt d3[x]! e)) (d := d3) (j := j3) (i := i9) (.inl (by omega)))
          go_wp2_with fail
          obtain rfl : i4 = i9 := by rw [← Hi4.out, ← HE9.out, HT9.out]
          go_meet
          exact ⟨by first | rfl | go_num, ⟨by omega, by omega⟩, HR9⟩
    case rest =>
      obtain ⟨rfl, ⟨bi41, bi42⟩, HR7⟩ := hcut
      obtain ⟨j4, hj4⟩ : ∃ j4, scanDown (fun e => klt d3[x]! e) d3 i4 j3 = j4 := ⟨_, rfl⟩
      have Hj4 := Lib.hid hj4
      clear hj4
      go_upto_block 4 with fail
      go_cut [10] from 19 to 52 (fun t W => t = .int .i64 (j4 : Int) ∧ (x ≤ j4 ∧ j4 ≤ j3) ∧ Hid (Rw b n sp w0 d3 W))
      case first =>
        have HS0 : Hid (SD b n sp w0 (fun e => klt d3[x]! e) d3 x (m + 1) i4 j3 (.int .i64 (j3 : Int)) _) := Lib.hid ⟨j3, by omega, by omega, by omega, rfl, HR7.out, rfl⟩
        go_wp2_with fail
        go_loopw [10] (fun t W => SD b n sp w0 (fun e => klt d3[x]! e) d3 x (m + 1) i4 j3 t W) (fun t _ => (intOf t).toNat)
        case atStart => first | exact HS0.out | (obtain ⟨i9, g1, g2, g3, g4, g5, g6⟩ := HS0.out; exact ⟨i9, g1, g2, g3, by rw [← g4] <;> congr 1 <;> omega, g5, g6⟩)
        case round =>
          obtain ⟨i9, q1, q2, q3, rfl, hR9, hE9⟩ := hrel
          have HR9 := Lib.hid hR9
          have HE9 := Lib.hid hE9
          clear hR9 hE9 HS0
          by_cases hc9 : i4 ≤ i9
          · obtain ⟨i9, rfl⟩ : ∃ i8, i9 = i8 + 1 := ⟨i9 - 1, by omega⟩
            by_cases hl9 : klt d3[x]! d3[i9 + 1]! = true
            · have HL9 := Lib.hid (fun (W : World) (hw : Rw b n sp w0 d3 W) (p q : Int) (hp : p = ((x : Nat) : Int)) (hq : q = ((i9 + 1 : Nat) : Int)) => HI.out.lessB true (x) (i9 + 1) hw (by omega) (by omega) hl9 hp hq)
              have HT9 := Lib.hid (dn_step (p := (fun e => klt d3[x]! e)) (d := d3) hc9 hl9)
              clear hl9
              go_wp2_with (first
                | (go_at_call 14; refine (HL9.out _ HR9.out _ _ (by omega) (by omega)).mono ?_; rintro e w9 ⟨rfl, hr, _⟩; have HQ9 := Lib.hid hr; clear hr))
              have HN9 : Hid (SD b n sp w0 (fun e => klt d3[x]! e) d3 x (m + 1) i4 j3 (.int .i64 (i9 : Int)) w9) := Lib.hid ⟨i9, by omega, by omega, by omega, by go_num, HQ9.out, by rw [← HE9.out, HT9.out]⟩
              clear HL9 HT9 HE9 HR9 HQ9
              go_roundw
              case rel => first | exact HN9.out | ((repeat apply Exists.intro); exact ⟨HN9.out, rfl⟩)
              case measure => simp [intOf] <;> omega
            · have HL9 := Lib.hid (fun (W : World) (hw : Rw b n sp w0 d3 W) (p q : Int) (hp : p = ((x : Nat) : Int)) (hq : q = ((i9 + 1 : Nat) : Int)) => HI.out.lessB false (x) (i9 + 1) hw (by omega) (by omega) (by simpa using hl9) hp hq)
              have HT9 := Lib.hid (dn_stop (p := (fun e => klt d3[x]! e)) (d := d3) (i := i4) (j := i9 + 1) (.inr (by simpa using hl9)))
              clear hl9
              go_wp2_with (first
                | (go_at_call 14; refine (HL9.out _ HR9.out _ _ (by omega) (by omega)).mono ?_; rintro e w9 ⟨rfl, hr, _⟩; have HQ9 := Lib.hid hr; clear hr))
              obtain rfl : j4 = i9 + 1 := by rw [← Hj4.out, ← HE9.out, HT9.out]
              go_meet
              exact ⟨by first | rfl | go_num, ⟨by omega, by omega⟩, HQ9⟩
          · have HT9 := Lib.hid (dn_stop (p := (fun e => klt d3[x]! e)) (d := d3) (i := i4) (j := i9) (.inl (by omega)))
            go_wp2_with fail
            obtain rfl : j4 = i9 := by rw [← Hj4.out, ← HE9.out, HT9.out]
            go_meet
            exact ⟨by first | rfl | go_num, ⟨by omega, by omega⟩, HR9⟩
      case rest =>
        obtain ⟨rfl, ⟨bj41, bj42⟩, HR8⟩ := hcut
        by_cases hq : j4 < i4
        · have HX : Hid (R = (i4, d3)) := Lib.hid (by rw [← HE6.out]; exact eq_end2 Hi4.out Hj4.out hq)
          clear HE6 Hi4 Hj4
          go_wp2_with fail
          go_ret
          exact ⟨by rw [HX.out]; rfl, by rw [HX.out]; exact HR8.out⟩
        · have HX := Lib.hid (eq_go klt Hi4.out Hj4.out (by omega))
          clear Hi4 Hj4
          go_wp2_with (first
            | (go_at_call 54; refine (HI.out.swapB (i4) (j4) HR8.out (by omega) (by omega) (by omega) (by omega)).mono ?_; rintro e w9 ⟨rfl, hr⟩; have HR9 := Lib.hid hr; clear hr))
          have HN : Hid (SP b n sp w0 x (m + 1) (partEqLoop klt x) R (.int .i64 ((i4 : Int) + 1)) (.int .i64 ((j4 : Int) - 1)) w9) := Lib.hid ⟨i4 + 1, j4 - 1, _, by omega, by omega, by omega, by omega, by go_num, by congr 1; omega, HR9.out, by rw [← HE6.out, HX.out]⟩
          go_roundw
          case rel => first | exact HN.out | ((repeat apply Exists.intro); exact ⟨HN.out, rfl⟩)
          case measure => simp [intOf] <;> omega
end Go.Proofs.Ytbnkhpbgibgahaa.so
