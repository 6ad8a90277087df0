/-
  The bound on the arguments' bytes and the look at the sources, over this seat's program.
  Conditions: none.
-/
import Derived.Test.YtbnkhpbgibgahaaEz
import Derived.Test.YtbnkhpbgibgahaaCloneU
namespace Go.Proofs.Ytbnkhpbgibgahaa.es
open Go.ChangeShapes Go.WideShapes Go.ChangeAt Go.RowKit
open kit ms fl rf so

def fits (a b c : Nat) : Bool := decide (a + b + c ≤ 1048576)
set_option maxHeartbeats 2000000 in
theorem bytes5 (A B C : Option Addr) (a b c ca cb cc : Nat) (w : World) : Calls Try.prog 5 #[.slice A a ca, .slice B b cb, .slice C c cc] w fun e w' => e = .returned (.bool (fits a b c)) ∧ w = w' := by
  by_cases h1 : a ≤ 1048576
  · have i1 : ¬ (a : Int) > 1048576 := by omega
    by_cases h2 : b ≤ 1048576
    · have i2 : ¬ (b : Int) > 1048576 := by omega
      by_cases h3 : a + b ≤ 1048576
      · have i3 : ¬ (a : Int) + (b : Int) > 1048576 := by omega
        by_cases h4 : c ≤ 1048576
        · have i4 : ¬ (c : Int) > 1048576 := by omega
          by_cases h5 : a + b + c ≤ 1048576
          · have i5 : ¬ (a : Int) + (b : Int) + (c : Int) > 1048576 := by omega
            have HB : Hid (fits a b c = true) := Lib.hid (by simp [fits]; omega)
            go_enter Try.func5, Try.ntmps5
            go_wp2_with fail
            go_ret
            exact ⟨by rw [HB.out]; rfl, rfl⟩
          · have i5 : (a : Int) + (b : Int) + (c : Int) > 1048576 := by omega
            have HB : Hid (fits a b c = false) := Lib.hid (by simp [fits]; omega)
            go_enter Try.func5, Try.ntmps5
            go_wp2_with fail
            go_ret
            exact ⟨by rw [HB.out]; rfl, rfl⟩
        · have i4 : (c : Int) > 1048576 := by omega
          have HB : Hid (fits a b c = false) := Lib.hid (by simp [fits]; omega)
          go_enter Try.func5, Try.ntmps5
          go_wp2_with fail
          go_ret
          exact ⟨by rw [HB.out]; rfl, rfl⟩
      · have i3 : (a : Int) + (b : Int) > 1048576 := by omega
        have HB : Hid (fits a b c = false) := Lib.hid (by simp [fits]; omega)
        go_enter Try.func5, Try.ntmps5
        go_wp2_with fail
        go_ret
        exact ⟨by rw [HB.out]; rfl, rfl⟩
    · have i2 : (b : Int) > 1048576 := by omega
      have HB : Hid (fits a b c = false) := Lib.hid (by simp [fits]; omega)
      go_enter Try.func5, Try.ntmps5
      go_wp2_with fail
      go_ret
      exact ⟨by rw [HB.out]; rfl, rfl⟩
  · have i1 : (a : Int) > 1048576 := by omega
    have HB : Hid (fits a b c = false) := Lib.hid (by simp [fits]; omega)
    go_enter Try.func5, Try.ntmps5
    go_wp2_with fail
    go_ret
    exact ⟨by rw [HB.out]; rfl, rfl⟩

set_option maxHeartbeats 2000000 in
theorem bytes13 (A B C : Option Addr) (a b c ca cb cc : Nat) (w : World) : Calls Try.prog 13 #[.slice A a ca, .slice B b cb, .slice C c cc] w fun e w' => e = .returned (.bool (fits a b c)) ∧ w = w' := by
  by_cases h1 : a ≤ 1048576
  · have i1 : ¬ (a : Int) > 1048576 := by omega
    by_cases h2 : b ≤ 1048576
    · have i2 : ¬ (b : Int) > 1048576 := by omega
      by_cases h3 : a + b ≤ 1048576
      · have i3 : ¬ (a : Int) + (b : Int) > 1048576 := by omega
        by_cases h4 : c ≤ 1048576
        · have i4 : ¬ (c : Int) > 1048576 := by omega
          by_cases h5 : a + b + c ≤ 1048576
          · have i5 : ¬ (a : Int) + (b : Int) + (c : Int) > 1048576 := by omega
            have HB : Hid (fits a b c = true) := Lib.hid (by simp [fits]; omega)
            go_enter Try.func13, Try.ntmps13
            go_wp2_with fail
            go_ret
            exact ⟨by rw [HB.out]; rfl, rfl⟩
          · have i5 : (a : Int) + (b : Int) + (c : Int) > 1048576 := by omega
            have HB : Hid (fits a b c = false) := Lib.hid (by simp [fits]; omega)
            go_enter Try.func13, Try.ntmps13
            go_wp2_with fail
            go_ret
            exact ⟨by rw [HB.out]; rfl, rfl⟩
        · have i4 : (c : Int) > 1048576 := by omega
          have HB : Hid (fits a b c = false) := Lib.hid (by simp [fits]; omega)
          go_enter Try.func13, Try.ntmps13
          go_wp2_with fail
          go_ret
          exact ⟨by rw [HB.out]; rfl, rfl⟩
      · have i3 : (a : Int) + (b : Int) > 1048576 := by omega
        have HB : Hid (fits a b c = false) := Lib.hid (by simp [fits]; omega)
        go_enter Try.func13, Try.ntmps13
        go_wp2_with fail
        go_ret
        exact ⟨by rw [HB.out]; rfl, rfl⟩
    · have i2 : (b : Int) > 1048576 := by omega
      have HB : Hid (fits a b c = false) := Lib.hid (by simp [fits]; omega)
      go_enter Try.func13, Try.ntmps13
      go_wp2_with fail
      go_ret
      exact ⟨by rw [HB.out]; rfl, rfl⟩
  · have i1 : (a : Int) > 1048576 := by omega
    have HB : Hid (fits a b c = false) := Lib.hid (by simp [fits]; omega)
    go_enter Try.func13, Try.ntmps13
    go_wp2_with fail
    go_ret
    exact ⟨by rw [HB.out]; rfl, rfl⟩

/-- every source lies in the table -/
def inR (P : List Int) (lS k : Nat) : Bool := (List.range k).all fun j => decide (P.getD j 0 < (lS : Int))
theorem inR_succ (P : List Int) (lS k : Nat) : inR P lS (k + 1) = (inR P lS k && decide (P.getD k 0 < (lS : Int))) := by simp [inR, List.range_succ, List.all_append]
theorem inR_false {P : List Int} {lS n k : Nat} (hk : k < n) (h : ¬ P.getD k 0 < (lS : Int)) : inR P lS n = false := by
  unfold inR
  rw [List.all_eq_false]
  exact ⟨k, by simpa using hk, by simpa using h⟩
theorem inR_at {P : List Int} {lS n : Nat} (h : inR P lS n = true) {k : Nat} (hk : k < n) : P.getD k 0 < (lS : Int) := by
  unfold inR at h
  rw [List.all_eq_true] at h
  simpa using h k (by simpa using hk)
def MR (w : World) (P : List Int) (lS n : Nat) (t : Value) (W : World) : Prop := ∃ k : Nat, k ≤ n ∧ t = .int .i64 (k : Int) ∧ inR P lS k = true ∧ Kept w W
set_option maxRecDepth 100000 in
set_option maxHeartbeats 4000000 in
theorem inRange (w : World) (A B : Option Addr) (lS lP cS cP n : Nat) (P : List Int) (h : Row w B lP cP (P.map (Value.int .u32))) (hn : n ≤ lP) (h6 : n ≤ 65536) (hl : lS ≤ 1048576) (hr : ∀ k, k < n → 0 ≤ P.getD k 0 ∧ P.getD k 0 ≤ 4294967295) :
    Calls Try.prog 8 #[.slice A lS cS, .slice B lP cP, .int .i64 (n : Int)] w fun e w' => e = .returned (.bool (inR P lS n)) ∧ Kept w w' := by
  have HP := Lib.hid h
  have HR := Lib.hid hr
  have H0 : Hid (MR w P lS n (.int .i64 0) w) := Lib.hid ⟨0, Nat.zero_le _, rfl, by simp [inR], Kept.refl w⟩
  clear h hr
  go_enter Try.func8, Try.ntmps8
  go_wp2_with fail
  go_loopw [7] (fun t W => MR w P lS n t W) (fun t _ => n - (intOf t).toNat)
  case atStart => exact H0.out
  case round =>
    obtain ⟨k, hk, rfl, hi, hkp⟩ := hrel
    have HI := Lib.hid hi
    have HK := Lib.hid hkp
    clear hi hkp H0
    by_cases hlt : k < n
    · obtain ⟨b, o, rfl, hb, hc⟩ := HP.out.at_ 0 (k := k) (by omega)
      have c1 := HK.out.cell hc
      obtain ⟨r1, r2⟩ := HR.out k hlt
      have i1 : (k : Int) < (lP : Int) := by omega
      have i2 : (0 : Int) ≤ (k : Int) := by omega
      clear hc hb
      by_cases hx : P.getD k 0 < (lS : Int)
      · have HN : Hid (MR w P lS n (.int .i64 ((k : Int) + 1)) wr) := Lib.hid ⟨k + 1, by omega, by go_num, by rw [inR_succ, HI.out, decide_eq_true hx]; rfl, HK.out⟩
        clear HI
        generalize P.getD k 0 = x at *
        have hge : decide (x ≥ (lS : Int)) = false := by simp; omega
        go_wp2_with fail
        go_roundw
        case rel => first | exact HN.out | ((repeat apply Exists.intro); exact ⟨HN.out, rfl⟩)
        case measure => simp [intOf] <;> omega
      · have HF : Hid (inR P lS n = false) := Lib.hid (inR_false hlt hx)
        clear HI
        generalize P.getD k 0 = x at *
        have hge : decide (x ≥ (lS : Int)) = true := by simp; omega
        go_wp2_with fail
        go_ret
        exact ⟨by rw [HF.out]; rfl, HK.out⟩
    · obtain rfl : k = n := by omega
      go_wp2_with fail
      go_ret
      exact ⟨by rw [HI.out]; rfl, HK.out⟩
end Go.Proofs.Ytbnkhpbgibgahaa.es
