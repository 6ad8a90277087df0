/-
  sort.insertionSort over this seat's program: the library's plain insertionSort on the row.
  Conditions: the range lies in the row.
-/
import Derived.Test.YtbnkhpbgibgahaaRw
namespace Go.Proofs.Ytbnkhpbgibgahaa.so
open Go.ChangeShapes Go.WideShapes Go.ChangeAt Go.RowKit
open kit ms sq fl Go.Sort

/-- a row of fewer than 2^60 entries behind an interface, and what Less and Swap do to it -/
structure Ifc (b n : Nat) (sp : List Value) (rv : Value) : Prop where
  less : ∀ (w0 : World) (d : Array En) (w : World) (i j : Nat), Rw b n sp w0 d w → i < n → j < n → Calls Try.prog 14 #[rv, .int .i64 (i : Int), .int .i64 (j : Int)] w fun e w' => e = .returned (.bool (klt d[i]! d[j]!)) ∧ Kept w w'
  swap : ∀ (w0 : World) (d : Array En) (w : World) (i j : Nat), Rw b n sp w0 d w → i < n → j < n → Calls Try.prog 54 #[rv, .int .i64 (i : Int), .int .i64 (j : Int)] w (Left b n sp w0 (swp d i j))
  small : n < 1152921504606846976
theorem ifc (b n c : Nat) (sp : List Value) (h : n < 1152921504606846976) : Ifc b n sp (rowV b n c) :=
  ⟨fun w0 d w i j h hi hj => less b n c sp w0 d w i j h hi hj, fun w0 d w i j h hi hj => swap b n c sp w0 d w i j h hi hj, h⟩
theorem mLess (rv : Value) : ∀ W : World, (method 764 35 rv "Less").run Try.prog W = .ok (14, rv) W := fun W => by kernel_rfl
theorem mSwap (rv : Value) : ∀ W : World, (method 764 35 rv "Swap").run Try.prog W = .ok (54, rv) W := fun W => by kernel_rfl
section
variable {b n : Nat} {sp : List Value} {rv : Value} {w0 w : World} {d : Array En}
theorem Ifc.lessB (I : Ifc b n sp rv) (bv : Bool) (i j : Nat) (h : Rw b n sp w0 d w) (hi : i < n) (hj : j < n) (hl : klt d[i]! d[j]! = bv) {p q : Int} (hp : p = i) (hq : q = j) :
    Calls Try.prog 14 #[rv, .int .i64 p, .int .i64 q] w fun e w' => e = .returned (.bool bv) ∧ Rw b n sp w0 d w' ∧ Kept w w' := by
  subst hp hq
  refine (I.less w0 d w i j h hi hj).mono ?_
  rintro e w' ⟨rfl, hk⟩
  exact ⟨by rw [hl], h.kept hk, hk⟩
theorem Ifc.swapB (I : Ifc b n sp rv) (i j : Nat) (h : Rw b n sp w0 d w) (hi : i < n) (hj : j < n) {p q : Int} (hp : p = i) (hq : q = j) :
    Calls Try.prog 54 #[rv, .int .i64 p, .int .i64 q] w fun e w' => e = .returned (.tuple #[]) ∧ Rw b n sp w0 (swp d i j) w' := by
  subst hp hq
  exact I.swap w0 d w i j h hi hj
end

/-- insertionSort's outer loop -/
def I1 (b n : Nat) (sp : List Value) (w0 : World) (x y : Nat) (d : Array En) (t : Value) (W : World) : Prop :=
  ∃ (i : Nat) (d2 : Array En), x + 1 ≤ i ∧ (i ≤ y ∨ i = x + 1) ∧ t = .int .i64 (i : Int) ∧ Rw b n sp w0 d2 W ∧ insOuter klt x y i d2 = insOuter klt x y (x + 1) d
/-- its inner loop -/
def I2 (b n : Nat) (sp : List Value) (w0 : World) (x i : Nat) (d : Array En) (t : Value) (W : World) : Prop :=
  ∃ (j : Nat) (d2 : Array En), x ≤ j ∧ j ≤ i ∧ t = .int .i64 (j : Int) ∧ Rw b n sp w0 d2 W ∧ insInner klt x j d2 = insInner klt x i d

set_option maxRecDepth 100000 in
set_option maxHeartbeats 8000000 in
theorem insertion {b n : Nat} {sp : List Value} {rv : Value} (I : Ifc b n sp rv) (w0 w : World) (d : Array En) (x y : Nat) (h : Rw b n sp w0 d w) (hxy : x ≤ y) (hy : y ≤ n) :
    Calls Try.prog 23 #[.iface 35 rv, .int .i64 (x : Int), .int .i64 (y : Int)] w (Left b n sp w0 (insertionSort klt d x y)) := by
  have m1 := mLess rv
  have m2 := mSwap rv
  have HI := Lib.hid I
  have hsm := I.small
  have H1 : Hid (I1 b n sp w0 x y d (.int .i64 ((x : Int) + 1)) w) := Lib.hid ⟨x + 1, d, by omega, by omega, by go_num, h, rfl⟩
  have HE : Hid (insertionSort klt d x y = insOuter klt x y (x + 1) d) := Lib.hid rfl
  clear h I
  go_enter Try.func23, Try.ntmps23
  go_wp2_with fail
  go_loopw [6, 7] (fun t _ W => I1 b n sp w0 x y d t W) (fun t _ _ => y - (intOf t).toNat)
  case atStart => exact H1.out
  case round =>
    obtain ⟨i, d2, hi1, hi2, rfl, hR, hE⟩ := hrel
    have HR := Lib.hid hR
    have HEE := Lib.hid hE
    clear hR hE H1
    by_cases hlt : i < y
    · have H2 : Hid (I2 b n sp w0 x i d2 (.int .i64 (i : Int)) wr) := Lib.hid ⟨i, d2, by omega, Nat.le_refl _, rfl, HR.out, rfl⟩
      clear HR
      go_wp2_with fail
      go_loopw [7] (fun t W => I2 b n sp w0 x i d2 t W) (fun t _ => (intOf t).toNat)
      case atStart => exact H2.out
      case round =>
        obtain ⟨j, d3, hj1, hj2, rfl, hR, hE⟩ := hrel
        have HR := Lib.hid hR
        have HE3 := Lib.hid hE
        clear hR hE H2
        by_cases hjx : j ≤ x
        · obtain rfl : j = x := by omega
          have HN : Hid (I1 b n sp w0 j y d (.int .i64 ((i : Int) + 1)) wr) := Lib.hid ⟨i + 1, d3, by omega, by omega, by go_num, HR.out, by
            rw [← HEE.out, out_step klt hlt, ← HE3.out, ins_stop1 klt (Nat.le_refl _)]⟩
          clear HR HE3 HEE
          go_wp2_with fail
          go_roundw
          case rel => first | exact HN.out | ((repeat apply Exists.intro); exact ⟨HN.out, rfl⟩)
          case measure => simp [intOf] <;> omega
        · obtain ⟨k, rfl⟩ : ∃ k, j = k + 1 := ⟨j - 1, by omega⟩
          by_cases hl : klt d3[k + 1]! d3[k]! = true
          · have HL := Lib.hid (fun (W : World) (r : Rw b n sp w0 d3 W) => HI.out.lessB true (k + 1) k r (by omega) (by omega) hl (p := (k : Int) + 1) (q := (k : Int)) rfl rfl)
            have HS := Lib.hid (ins_step klt (show x < k + 1 by omega) hl)
            clear hl
            go_wp2_with (first
              | (go_at_call 14; refine (HL.out _ HR.out).mono ?_; rintro e w' ⟨rfl, hr, _⟩; have HR2 := Lib.hid hr; clear hr)
              | (go_at_call 54; refine (HI.out.swapB (k + 1) k HR2.out (by omega) (by omega) (by omega) (by omega)).mono ?_; rintro e w3 ⟨rfl, hr⟩; have HR3 := Lib.hid hr; clear hr))
            have HN : Hid (I2 b n sp w0 x i d2 (.int .i64 (k : Int)) w3) := Lib.hid ⟨k, _, by omega, by omega, rfl, HR3.out, by rw [← HE3.out, HS.out]⟩
            clear HR HR2 HR3 HL HS HE3
            go_roundw
            case rel => first | exact HN.out | ((repeat apply Exists.intro); exact ⟨HN.out, rfl⟩)
            case measure => simp [intOf] <;> omega
          · have HL := Lib.hid (fun (W : World) (r : Rw b n sp w0 d3 W) => HI.out.lessB false (k + 1) k r (by omega) (by omega) (by simpa using hl) (p := (k : Int) + 1) (q := (k : Int)) rfl rfl)
            have HS := Lib.hid (ins_stop2 (a := x) klt (show klt d3[k + 1]! d3[k]! = false by simpa using hl))
            clear hl
            go_wp2_with (first
              | (go_at_call 14; refine (HL.out _ HR.out).mono ?_; rintro e w' ⟨rfl, hr, _⟩; have HR2 := Lib.hid hr; clear hr))
            have HN : Hid (I1 b n sp w0 x y d (.int .i64 ((i : Int) + 1)) w') := Lib.hid ⟨i + 1, d3, by omega, by omega, by go_num, HR2.out, by
              rw [← HEE.out, out_step klt hlt, ← HE3.out, HS.out]⟩
            clear HR HR2 HL HS HE3 HEE
            go_roundw
            case rel => first | exact HN.out | ((repeat apply Exists.intro); exact ⟨HN.out, rfl⟩)
            case measure => simp [intOf] <;> omega
    · have HF : Hid (insertionSort klt d x y = d2) := Lib.hid (by rw [HE.out, ← HEE.out, out_stop klt (by omega)])
      clear HE HEE
      go_wp2_with fail
      go_end0
      exact ⟨rfl, by rw [HF.out]; exact HR.out⟩
end Go.Proofs.Ytbnkhpbgibgahaa.so
