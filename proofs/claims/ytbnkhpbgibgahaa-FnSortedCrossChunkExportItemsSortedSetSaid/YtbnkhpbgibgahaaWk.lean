/-
  sort.partition over this seat's program: the library's plain partition on the row.
  Conditions: the range lies in the row.
-/
import Derived.Test.YtbnkhpbgibgahaaWh
import Derived.Deep.CutBlock
import Derived.Deep.CutRange
namespace Go.Proofs.Ytbnkhpbgibgahaa.so
open Go.ChangeShapes Go.WideShapes Go.ChangeAt Go.RowKit
open kit ms sq fl Go.Sort

def SU (b n : Nat) (sp : List Value) (w0 : World) (p : En → Bool) (d : Array En) (x y j i0 : Nat) (t : Value) (W : World) : Prop :=
  ∃ i, x + 1 ≤ i ∧ i0 ≤ i ∧ i ≤ y ∧ t = .int .i64 (i : Int) ∧ Rw b n sp w0 d W ∧ scanUp p d j i = scanUp p d j i0
def SD (b n : Nat) (sp : List Value) (w0 : World) (p : En → Bool) (d : Array En) (x y i j0 : Nat) (t : Value) (W : World) : Prop :=
  ∃ j, x ≤ j ∧ j ≤ j0 ∧ j < y ∧ t = .int .i64 (j : Int) ∧ Rw b n sp w0 d W ∧ scanDown p d i j = scanDown p d i j0
theorem part_now {d : Array En} {x y p i j : Nat} (hi : scanUp (fun e => klt e (swp d x p)[x]!) (swp d x p) (y - 1) (x + 1) = i) (hj : scanDown (fun e => !klt e (swp d x p)[x]!) (swp d x p) i (y - 1) = j) (h : j < i) :
    partition klt d x y p = (j, true, swp (swp d x p) j x) := by
  subst hi hj
  unfold partition
  exact if_pos h
theorem part_more {d : Array En} {x y p i j : Nat} (hi : scanUp (fun e => klt e (swp d x p)[x]!) (swp d x p) (y - 1) (x + 1) = i) (hj : scanDown (fun e => !klt e (swp d x p)[x]!) (swp d x p) i (y - 1) = j) (h : i ≤ j) :
    partition klt d x y p = ((partLoop klt x (i + 1) (j - 1) (swp (swp d x p) i j)).1, false, swp (partLoop klt x (i + 1) (j - 1) (swp (swp d x p) i j)).2 (partLoop klt x (i + 1) (j - 1) (swp (swp d x p) i j)).1 x) := by
  subst hi hj
  unfold partition
  exact if_neg (by omega)
theorem part_end2 {x i j i2 j2 : Nat} {d : Array En} (hi : scanUp (fun e => klt e d[x]!) d j i = i2) (hj : scanDown (fun e => !klt e d[x]!) d i2 j = j2) (h : j2 < i2) : partLoop klt x i j d = (j2, d) := by
  subst hi hj
  exact part_end klt h
theorem eq_end2 {x i j i2 j2 : Nat} {d : Array En} (hi : scanUp (fun e => !klt d[x]! e) d j i = i2) (hj : scanDown (fun e => klt d[x]! e) d i2 j = j2) (h : j2 < i2) : partEqLoop klt x i j d = (i2, d) := by
  subst hi hj
  exact eq_end klt h
/-- the partitions' outer loops -/
def SP (b n : Nat) (sp : List Value) (w0 : World) (x y : Nat) (f : Nat → Nat → Array En → Nat × Array En) (R : Nat × Array En) (t u : Value) (W : World) : Prop :=
  ∃ (i j : Nat) (d : Array En), x + 1 ≤ i ∧ i ≤ y ∧ x ≤ j ∧ j < y ∧ t = .int .i64 (i : Int) ∧ u = .int .i64 (j : Int) ∧ Rw b n sp w0 d W ∧ f i j d = R
def Parted (b n : Nat) (sp : List Value) (w0 : World) (R : Nat × Bool × Array En) (e : Ending) (w : World) : Prop := e = .returned (.tuple #[.int .i64 (R.1 : Int), .bool R.2.1]) ∧ Rw b n sp w0 R.2.2 w
def PartedEq (b n : Nat) (sp : List Value) (w0 : World) (R : Nat × Array En) (e : Ending) (w : World) : Prop := e = .returned (.int .i64 (R.1 : Int)) ∧ Rw b n sp w0 R.2 w

set_option maxRecDepth 100000 in
set_option maxHeartbeats 8000000 in
theorem part {b n : Nat} {sp : List Value} {rv : Value} (I : Ifc b n sp rv) (w0 w : World) (d : Array En) (x m p : Nat) (h : Rw b n sp w0 d w) (h1 : x ≤ p) (h2 : p ≤ m) (h0 : x < m) (hy : m < n) :
    Calls Try.prog 30 #[.iface 35 rv, .int .i64 (x : Int), .int .i64 ((m : Int) + 1), .int .i64 (p : Int)] w (Parted b n sp w0 (partition klt d x (m + 1) p)) := by
  have m1 := mLess rv
  have m2 := mSwap rv
  have HI := Lib.hid I
  have hsm := I.small
  clear I
  have HR := Lib.hid h
  clear h
  obtain ⟨d1, hd1⟩ : ∃ d1, swp d x p = d1 := ⟨_, rfl⟩
  have HD1 := Lib.hid hd1
  clear hd1
  go_enter Try.func30, Try.ntmps30
  obtain ⟨i2, hi2⟩ : ∃ i2, scanUp (fun e => klt e d1[x]!) d1 m (x + 1) = i2 := ⟨_, rfl⟩
  have Hi2 := Lib.hid hi2
  clear hi2
  go_upto_block 0 with (first | (go_at_call 54; refine (HI.out.swapB x p HR.out (by omega) (by omega) (by omega) (by omega)).mono ?_; rintro e w1 ⟨rfl, hr⟩; rw [HD1.out] at hr; have HR1 := Lib.hid hr; clear hr))
  go_cut [10] from 20 (fun t W => t = .int .i64 (i2 : Int) ∧ ((x + 1) ≤ i2 ∧ i2 ≤ m + 1) ∧ Hid (Rw b n sp w0 d1 W))
  case first =>
    have HS0 : Hid (SU b n sp w0 (fun e => klt e d1[x]!) d1 x (m + 1) m (x + 1) (.int .i64 ((x + 1) : Int)) _) := Lib.hid ⟨(x + 1), by omega, by omega, by omega, rfl, HR1.out, rfl⟩
    go_wp2_with fail
    go_loopw [10] (fun t W => SU b n sp w0 (fun e => klt e d1[x]!) d1 x (m + 1) m (x + 1) t W) (fun t _ => m + 1 - (intOf t).toNat)
    case atStart => first | exact HS0.out | (obtain ⟨i9, g1, g2, g3, g4, g5, g6⟩ := HS0.out; exact ⟨i9, g1, g2, g3, by rw [← g4] <;> congr 1 <;> omega, g5, g6⟩)
    case round =>
      obtain ⟨i9, q1, q2, q3, rfl, hR9, hE9⟩ := hrel
      have HR9 := Lib.hid hR9
      have HE9 := Lib.hid hE9
      clear hR9 hE9 HS0
      by_cases hc9 : i9 ≤ m
      · by_cases hl9 : klt d1[i9]! d1[x]! = true
        · have HL9 := Lib.hid (fun (W : World) (hw : Rw b n sp w0 d1 W) (p q : Int) (hp : p = ((i9 : Nat) : Int)) (hq : q = ((x : Nat) : Int)) => HI.out.lessB true (i9) (x) hw (by omega) (by omega) hl9 hp hq)
          have HT9 := Lib.hid (up_step (p := (fun e => klt e d1[x]!)) (d := d1) hc9 hl9)
          clear hl9
          go_wp2_with (first
            | (go_at_call 14; refine (HL9.out _ HR9.out _ _ (by omega) (by omega)).mono ?_; rintro e w9 ⟨rfl, hr, _⟩; have HQ9 := Lib.hid hr; clear hr))
          have HN9 : Hid (SU b n sp w0 (fun e => klt e d1[x]!) d1 x (m + 1) m (x + 1) (.int .i64 ((i9 : Int) + 1)) w9) := Lib.hid ⟨i9 + 1, by omega, by omega, by omega, by go_num, HQ9.out, by rw [← HE9.out, HT9.out]⟩
          clear HL9 HT9 HE9 HR9 HQ9
          go_roundw
          case rel => first | exact HN9.out | ((repeat apply Exists.intro); exact ⟨HN9.out, rfl⟩)
          case measure => simp [intOf] <;> omega
        · have HL9 := Lib.hid (fun (W : World) (hw : Rw b n sp w0 d1 W) (p q : Int) (hp : p = ((i9 : Nat) : Int)) (hq : q = ((x : Nat) : Int)) => HI.out.lessB false (i9) (x) hw (by omega) (by omega) (by simpa using hl9) hp hq)
          have HT9 := Lib.hid (up_stop (p := (fun e => klt e d1[x]!)) (d := d1) (j := m) (i := i9) (.inr (by simpa using hl9)))
          clear hl9
          go_wp2_with (first
            | (go_at_call 14; refine (HL9.out _ HR9.out _ _ (by omega) (by omega)).mono ?_; rintro e w9 ⟨rfl, hr, _⟩; have HQ9 := Lib.hid hr; clear hr))
          obtain rfl : i2 = i9 := by rw [← Hi2.out, ← HE9.out, HT9.out]
          go_meet
          exact ⟨by first | rfl | go_num, ⟨by omega, by omega⟩, HQ9⟩
      · have HT9 := Lib.hid (up_stop (p := (fun e => klt e d1[x]!)) (d := d1) (j := m) (i := i9) (.inl (by omega)))
        go_wp2_with fail
        obtain rfl : i2 = i9 := by rw [← Hi2.out, ← HE9.out, HT9.out]
        go_meet
        exact ⟨by first | rfl | go_num, ⟨by omega, by omega⟩, HR9⟩
  case rest =>
    obtain ⟨rfl, ⟨bi21, bi22⟩, HR2⟩ := hcut
    obtain ⟨j2, hj2⟩ : ∃ j2, scanDown (fun e => !klt e d1[x]!) d1 i2 m = j2 := ⟨_, rfl⟩
    have Hj2 := Lib.hid hj2
    clear hj2
    go_upto_block 2 with fail
    go_cut [11] from 31 (fun t W => t = .int .i64 (j2 : Int) ∧ (x ≤ j2 ∧ j2 ≤ m) ∧ Hid (Rw b n sp w0 d1 W))
    case first =>
      have HS0 : Hid (SD b n sp w0 (fun e => !klt e d1[x]!) d1 x (m + 1) i2 m (.int .i64 (m : Int)) _) := Lib.hid ⟨m, by omega, by omega, by omega, rfl, HR2.out, rfl⟩
      go_wp2_with fail
      go_loopw [11] (fun t W => SD b n sp w0 (fun e => !klt e d1[x]!) d1 x (m + 1) i2 m t W) (fun t _ => (intOf t).toNat)
      case atStart => first | exact HS0.out | (obtain ⟨i9, g1, g2, g3, g4, g5, g6⟩ := HS0.out; exact ⟨i9, g1, g2, g3, by rw [← g4] <;> congr 1 <;> omega, g5, g6⟩)
      case round =>
        obtain ⟨i9, q1, q2, q3, rfl, hR9, hE9⟩ := hrel
        have HR9 := Lib.hid hR9
        have HE9 := Lib.hid hE9
        clear hR9 hE9 HS0
        by_cases hc9 : i2 ≤ i9
        · obtain ⟨i9, rfl⟩ : ∃ i8, i9 = i8 + 1 := ⟨i9 - 1, by omega⟩
          by_cases hl9 : klt d1[i9 + 1]! d1[x]! = false
          · have HL9 := Lib.hid (fun (W : World) (hw : Rw b n sp w0 d1 W) (p q : Int) (hp : p = ((i9 + 1 : Nat) : Int)) (hq : q = ((x : Nat) : Int)) => HI.out.lessB false (i9 + 1) (x) hw (by omega) (by omega) hl9 hp hq)
            have HT9 := Lib.hid (dn_step (p := (fun e => !klt e d1[x]!)) (d := d1) hc9 (by simp [hl9]))
            clear hl9
            go_wp2_with (first
              | (go_at_call 14; refine (HL9.out _ HR9.out _ _ (by omega) (by omega)).mono ?_; rintro e w9 ⟨rfl, hr, _⟩; have HQ9 := Lib.hid hr; clear hr))
            have HN9 : Hid (SD b n sp w0 (fun e => !klt e d1[x]!) d1 x (m + 1) i2 m (.int .i64 (i9 : Int)) w9) := Lib.hid ⟨i9, by omega, by omega, by omega, by go_num, HQ9.out, by rw [← HE9.out, HT9.out]⟩
            clear HL9 HT9 HE9 HR9 HQ9
            go_roundw
            case rel => first | exact HN9.out | ((repeat apply Exists.intro); exact ⟨HN9.out, rfl⟩)
            case measure => simp [intOf] <;> omega
          · have HL9 := Lib.hid (fun (W : World) (hw : Rw b n sp w0 d1 W) (p q : Int) (hp : p = ((i9 + 1 : Nat) : Int)) (hq : q = ((x : Nat) : Int)) => HI.out.lessB true (i9 + 1) (x) hw (by omega) (by omega) (by simpa using hl9) hp hq)
            have HT9 := Lib.hid (dn_stop (p := (fun e => !klt e d1[x]!)) (d := d1) (i := i2) (j := i9 + 1) (.inr (by simpa using hl9)))
            clear hl9
            go_wp2_with (first
              | (go_at_call 14; refine (HL9.out _ HR9.out _ _ (by omega) (by omega)).mono ?_; rintro e w9 ⟨rfl, hr, _⟩; have HQ9 := Lib.hid hr; clear hr))
            obtain rfl : j2 = i9 + 1 := by rw [← Hj2.out, ← HE9.out, HT9.out]
            go_meet
            exact ⟨by first | rfl | go_num, ⟨by omega, by omega⟩, HQ9⟩
        · have HT9 := Lib.hid (dn_stop (p := (fun e => !klt e d1[x]!)) (d := d1) (i := i2) (j := i9) (.inl (by omega)))
          go_wp2_with fail
          obtain rfl : j2 = i9 := by rw [← Hj2.out, ← HE9.out, HT9.out]
          go_meet
          exact ⟨by first | rfl | go_num, ⟨by omega, by omega⟩, HR9⟩
    case rest =>
      obtain ⟨rfl, ⟨bj21, bj22⟩, HR3⟩ := hcut
      by_cases hij : j2 < i2
      · have HF : Hid (partition klt d x (m + 1) p = (j2, true, swp d1 j2 x)) := Lib.hid (by
          have e := HD1.out
          subst e
          exact part_now Hi2.out Hj2.out hij)
        go_wp2_with (first
          | (go_at_call 54; refine (HI.out.swapB (j2) (x) HR3.out (by omega) (by omega) (by omega) (by omega)).mono ?_; rintro e w5 ⟨rfl, hr⟩; have HR5 := Lib.hid hr; clear hr))
        refine bodyPost_ret (v := .tuple #[.int .i64 (j2 : Int), .bool true]) (by simp [results, Try.results30, go_sem]) rfl ?_
        exact ⟨by rw [HF.out], by rw [HF.out]; exact HR5.out⟩
      · have HF : Hid (partition klt d x (m + 1) p = ((partLoop klt x (i2 + 1) (j2 - 1) (swp d1 i2 j2)).1, false, swp (partLoop klt x (i2 + 1) (j2 - 1) (swp d1 i2 j2)).2 (partLoop klt x (i2 + 1) (j2 - 1) (swp d1 i2 j2)).1 x)) := Lib.hid (by
          have e := HD1.out
          subst e
          exact part_more Hi2.out Hj2.out (by omega))
        clear Hi2 Hj2 HD1
        obtain ⟨R, hR⟩ : ∃ R, partLoop klt x (i2 + 1) (j2 - 1) (swp d1 i2 j2) = R := ⟨_, rfl⟩
        rw [hR] at HF
        have HPR := Lib.hid hR
        clear hR
        go_upto_block 4 with (first
          | (go_at_call 54; refine (HI.out.swapB (i2) (j2) HR3.out (by omega) (by omega) (by omega) (by omega)).mono ?_; rintro e w5 ⟨rfl, hr⟩; have HR5 := Lib.hid hr; clear hr))
        have HL0 : Hid (SP b n sp w0 x (m + 1) (partLoop klt x) R (.int .i64 ((i2 : Int) + 1)) (.int .i64 ((j2 : Int) - 1)) w5) := Lib.hid ⟨i2 + 1, j2 - 1, _, by omega, by omega, by omega, by omega, by go_num, by congr 1; omega, HR5.out, HPR.out⟩
        clear HR HR1 HR2 HR3 HR5 HPR
        go_wp2_with fail
        go_loopw [10, 11] (fun t u W => SP b n sp w0 x (m + 1) (partLoop klt x) R t u W) (fun t u _ => (intOf u + 1 - intOf t).toNat)
        case atStart => exact HL0.out
        case round =>
          obtain ⟨i3, j3, d3, p1, p2, p3, p4, rfl, rfl, hR, hE⟩ := hrel
          have HR6 := Lib.hid hR
          have HE6 := Lib.hid hE
          clear hR hE HL0
          obtain ⟨i4, hi4⟩ : ∃ i4, scanUp (fun e => klt e d3[x]!) d3 j3 i3 = i4 := ⟨_, rfl⟩
          have Hi4 := Lib.hid hi4
          clear hi4
          go_upto_block 6 with fail
          go_cut [10] from 59 to 92 (fun t W => t = .int .i64 (i4 : Int) ∧ (i3 ≤ i4 ∧ i4 ≤ m + 1) ∧ Hid (Rw b n sp w0 d3 W))
          case first =>
            have HS0 : Hid (SU b n sp w0 (fun e => klt e d3[x]!) d3 x (m + 1) j3 i3 (.int .i64 (i3 : Int)) _) := Lib.hid ⟨i3, by omega, by omega, by omega, rfl, HR6.out, rfl⟩
            go_wp2_with fail
            go_loopw [10] (fun t W => SU b n sp w0 (fun e => klt e d3[x]!) d3 x (m + 1) j3 i3 t W) (fun t _ => m + 1 - (intOf t).toNat)
            case atStart => first | exact HS0.out | (obtain ⟨i9, g1, g2, g3, g4, g5, g6⟩ := HS0.out; exact ⟨i9, g1, g2, g3, by rw [← g4] <;> congr 1 <;> omega, g5, g6⟩)
            case round =>
              obtain ⟨i9, q1, q2, q3, rfl, hR9, hE9⟩ := hrel
              have HR9 := Lib.hid hR9
              have HE9 := Lib.hid hE9
              clear hR9 hE9 HS0
              by_cases hc9 : i9 ≤ j3
              · by_cases hl9 : klt d3[i9]! d3[x]! = true
                · have HL9 := Lib.hid (fun (W : World) (hw : Rw b n sp w0 d3 W) (p q : Int) (hp : p = ((i9 : Nat) : Int)) (hq : q = ((x : Nat) : Int)) => HI.out.lessB true (i9) (x) hw (by omega) (by omega) hl9 hp hq)
                  have HT9 := Lib.hid (up_step (p := (fun e => klt e d3[x]!)) (d := d3) hc9 hl9)
                  clear hl9
                  go_wp2_with (first
                    | (go_at_call 14; refine (HL9.out _ HR9.out _ _ (by omega) (by omega)).mono ?_; rintro e w9 ⟨rfl, hr, _⟩; have HQ9 := Lib.hid hr; clear hr))
                  have HN9 : Hid (SU b n sp w0 (fun e => klt e d3[x]!) d3 x (m + 1) j3 i3 (.int .i64 ((i9 : Int) + 1)) w9) := Lib.hid ⟨i9 + 1, by omega, by omega, by omega, by go_num, HQ9.out, by rw [← HE9.out, HT9.out]⟩
                  clear HL9 HT9 HE9 HR9 HQ9
                  go_roundw
                  case rel => first | exact HN9.out | ((repeat apply Exists.intro); exact ⟨HN9.out, rfl⟩)
                  case measure => simp [intOf] <;> omega
                · have HL9 := Lib.hid (fun (W : World) (hw : Rw b n sp w0 d3 W) (p q : Int) (hp : p = ((i9 : Nat) : Int)) (hq : q = ((x : Nat) : Int)) => HI.out.lessB false (i9) (x) hw (by omega) (by omega) (by simpa using hl9) hp hq)
                  have HT9 := Lib.hid (up_stop (p := (fun e => klt e d3[x]!)) (d := d3) (j := j3) (i := i9) (.inr (by simpa using hl9)))
                  clear hl9
                  go_wp2_with (first
                    | (go_at_call 14; refine (HL9.out _ HR9.out _ _ (by omega) (by omega)).mono ?_; rintro e w9 ⟨rfl, hr, _⟩; have HQ9 := Lib.hid hr; clear hr))
                  obtain rfl : i4 = i9 := by rw [← Hi4.out, ← HE9.out, HT9.out]
                  go_meet
                  exact ⟨by first | rfl | go_num, ⟨by omega, by omega⟩, HQ9⟩
              · have HT9 := Lib.hid (up_stop (p := (fun e => klt e d3[x]!)) (d := d3) (j := j3) (i := i9) (.inl (by omega)))
                go_wp2_with fail
                obtain rfl : i4 = i9 := by rw [← Hi4.out, ← HE9.out, HT9.out]
                go_meet
                exact ⟨by first | rfl | go_num, ⟨by omega, by omega⟩, HR9⟩
          case rest =>
            obtain ⟨rfl, ⟨bi41, bi42⟩, HR7⟩ := hcut
            obtain ⟨j4, hj4⟩ : ∃ j4, scanDown (fun e => !klt e d3[x]!) d3 i4 j3 = j4 := ⟨_, rfl⟩
            have Hj4 := Lib.hid hj4
            clear hj4
            go_upto_block 8 with fail
            go_cut [11] from 59 to 92 (fun t W => t = .int .i64 (j4 : Int) ∧ (x ≤ j4 ∧ j4 ≤ j3) ∧ Hid (Rw b n sp w0 d3 W))
            case first =>
              have HS0 : Hid (SD b n sp w0 (fun e => !klt e d3[x]!) d3 x (m + 1) i4 j3 (.int .i64 (j3 : Int)) _) := Lib.hid ⟨j3, by omega, by omega, by omega, rfl, HR7.out, rfl⟩
              go_wp2_with fail
              go_loopw [11] (fun t W => SD b n sp w0 (fun e => !klt e d3[x]!) d3 x (m + 1) i4 j3 t W) (fun t _ => (intOf t).toNat)
              case atStart => first | exact HS0.out | (obtain ⟨i9, g1, g2, g3, g4, g5, g6⟩ := HS0.out; exact ⟨i9, g1, g2, g3, by rw [← g4] <;> congr 1 <;> omega, g5, g6⟩)
              case round =>
                obtain ⟨i9, q1, q2, q3, rfl, hR9, hE9⟩ := hrel
                have HR9 := Lib.hid hR9
                have HE9 := Lib.hid hE9
                clear hR9 hE9 HS0
                by_cases hc9 : i4 ≤ i9
                · obtain ⟨i9, rfl⟩ : ∃ i8, i9 = i8 + 1 := ⟨i9 - 1, by omega⟩
                  by_cases hl9 : klt d3[i9 + 1]! d3[x]! = false
                  · have HL9 := Lib.hid (fun (W : World) (hw : Rw b n sp w0 d3 W) (p q : Int) (hp : p = ((i9 + 1 : Nat) : Int)) (hq : q = ((x : Nat) : Int)) => HI.out.lessB false (i9 + 1) (x) hw (by omega) (by omega) hl9 hp hq)
                    have HT9 := Lib.hid (dn_step (p := (fun e => !klt e d3[x]!)) (d := d3) hc9 (by simp [hl9]))
                    clear hl9
                    go_wp2_with (first
                      | (go_at_call 14; refine (HL9.out _ HR9.out _ _ (by omega) (by omega)).mono ?_; rintro e w9 ⟨rfl, hr, _⟩; have HQ9 := Lib.hid hr; clear hr))
                    have HN9 : Hid (SD b n sp w0 (fun e => !klt e d3[x]!) d3 x (m + 1) i4 j3 (.int .i64 (i9 : Int)) w9) := Lib.hid ⟨i9, by omega, by omega, by omega, by go_num, HQ9.out, by rw [← HE9.out, HT9.out]⟩
                    clear HL9 HT9 HE9 HR9 HQ9
                    go_roundw
                    case rel => first | exact HN9.out | ((repeat apply Exists.intro); exact ⟨HN9.out, rfl⟩)
                    case measure => simp [intOf] <;> omega
                  · have HL9 := Lib.hid (fun (W : World) (hw : Rw b n sp w0 d3 W) (p q : Int) (hp : p = ((i9 + 1 : Nat) : Int)) (hq : q = ((x : Nat) : Int)) => HI.out.lessB true (i9 + 1) (x) hw (by omega) (by omega) (by simpa using hl9) hp hq)
                    have HT9 := Lib.hid (dn_stop (p := (fun e => !klt e d3[x]!)) (d := d3) (i := i4) (j := i9 + 1) (.inr (by simpa using hl9)))
                    clear hl9
                    go_wp2_with (first
                      | (go_at_call 14; refine (HL9.out _ HR9.out _ _ (by omega) (by omega)).mono ?_; rintro e w9 ⟨rfl, hr, _⟩; have HQ9 := Lib.hid hr; clear hr))
                    obtain rfl : j4 = i9 + 1 := by rw [← Hj4.out, ← HE9.out, HT9.out]
                    go_meet
                    exact ⟨by first | rfl | go_num, ⟨by omega, by omega⟩, HQ9⟩
                · have HT9 := Lib.hid (dn_stop (p := (fun e => !klt e d3[x]!)) (d := d3) (i := i4) (j := i9) (.inl (by omega)))
                  go_wp2_with fail
                  obtain rfl : j4 = i9 := by rw [← Hj4.out, ← HE9.out, HT9.out]
                  go_meet
                  exact ⟨by first | rfl | go_num, ⟨by omega, by omega⟩, HR9⟩
            case rest =>
              obtain ⟨rfl, ⟨bj41, bj42⟩, HR8⟩ := hcut
              by_cases hq : j4 < i4
              · have HX : Hid (R = (j4, d3)) := Lib.hid (by rw [← HE6.out]; exact part_end2 Hi4.out Hj4.out hq)
                clear HE6 Hi4 Hj4
                go_wp2_with (first
                  | (go_at_call 54; refine (HI.out.swapB (j4) (x) HR8.out (by omega) (by omega) (by omega) (by omega)).mono ?_; rintro e w9 ⟨rfl, hr⟩; have HR9 := Lib.hid hr; clear hr))
                refine bodyPost_ret (v := .tuple #[.int .i64 (j4 : Int), .bool false]) (by simp [results, Try.results30, go_sem]) rfl ?_
                exact ⟨by rw [HF.out, HX.out], by rw [HF.out, HX.out]; exact HR9.out⟩
              · have HX := Lib.hid (part_go klt Hi4.out Hj4.out (by omega))
                clear Hi4 Hj4
                go_wp2_with (first
                  | (go_at_call 54; refine (HI.out.swapB (i4) (j4) HR8.out (by omega) (by omega) (by omega) (by omega)).mono ?_; rintro e w9 ⟨rfl, hr⟩; have HR9 := Lib.hid hr; clear hr))
                have HN : Hid (SP b n sp w0 x (m + 1) (partLoop klt x) R (.int .i64 ((i4 : Int) + 1)) (.int .i64 ((j4 : Int) - 1)) w9) := Lib.hid ⟨i4 + 1, j4 - 1, _, by omega, by omega, by omega, by omega, by go_num, by congr 1; omega, HR9.out, by rw [← HE6.out, HX.out]⟩
                go_roundw
                case rel => first | exact HN.out | ((repeat apply Exists.intro); exact ⟨HN.out, rfl⟩)
                case measure => simp [intOf] <;> omega
end Go.Proofs.Ytbnkhpbgibgahaa.so
