/-
  The law's two guards over this seat's program: they write nothing, and where the second says yes the sizes are within its bounds.
  Conditions: the conditions are readable.
-/
import Derived.Test.YtimllpocefbcbaaWk
namespace Go.Proofs.Ytimllpocefbcbaa.wr
open Go.ChangeShapes Go.WideShapes Go.ChangeAt Go.RowKit
open kit

def SomeB (w : World) (e : Ending) (w' : World) : Prop := (∃ b, e = .returned (.bool b)) ∧ w = w'
def T4 (w0 : World) (n : Nat) (t5 t6 : Value) (W : World) : Prop := ∃ (k : Nat) (x : Int), k ≤ n ∧ t6 = .int .i64 (k : Int) ∧ t5 = .int .i64 x ∧ W = w0
set_option maxRecDepth 100000 in
set_option maxHeartbeats 4000000 in
theorem zz (w : World) (x0 : Int) (a : Option Addr) (c : Nat) (F : Cs) (h : CndsC w (.slice a F.length c) F) : Calls Try.prog 4 #[.int .i64 x0, .slice a F.length c] w (SomeB w) := by
  obtain ⟨a2, c2, e, hc1, hc2, _⟩ := Sl.len h
  injection e with e1 e2 e3
  subst e1 e3
  clear e2
  have HC := Lib.hid h
  clear h
  by_cases hn : F.length ≤ 1048576
  · go_enter Try.func4, Try.ntmps4
    go_wp2_with fail
    go_loopw [5, 6] (fun t5 t6 W => T4 w F.length t5 t6 W) (fun _ t6 _ => F.length - (intOf t6).toNat)
    case atStart => exact ⟨0, _, Nat.zero_le _, rfl, rfl, rfl⟩
    case round =>
      obtain ⟨k, x, hk, rfl, rfl, rfl⟩ := hrel
      by_cases hlt : k < F.length
      · obtain ⟨b, off, ea, _, a1, c1, y0, y1, r1⟩ := HC.out.at_ hlt
        subst ea
        have k0 : (k : Int) < (F.length : Int) := by omega
        have R1 := Lib.hid r1
        have hm1 := r1.2.1
        have hm2 : c1 ≤ 9223372036854775807 := by have := r1.2.2.1; unfold maxLen at this; exact this
        clear r1
        generalize (at_ F k).L.length = m at *
        go_wp2_with fail
        · (go_ret; exact ⟨⟨_, rfl⟩, rfl⟩)
        · (go_ret; exact ⟨⟨_, rfl⟩, rfl⟩)
        · go_roundw
          case rel => exact ⟨k + 1, _, by omega, by go_num, rfl, rfl⟩
          case measure => simp [intOf]; omega
      · obtain rfl : k = F.length := by omega
        go_wp2_with fail
        go_ret
        exact ⟨⟨_, rfl⟩, rfl⟩
  · go_enter Try.func4, Try.ntmps4
    go_wp2_with fail
    go_ret
    exact ⟨⟨_, rfl⟩, rfl⟩
def SizeB (w : World) (x0 : Int) (F : Cs) (e : Ending) (w' : World) : Prop := (∃ b, e = .returned (.bool b) ∧ (b = true → 0 ≤ x0 ∧ x0 ≤ 65536 ∧ F.length ≤ 4096 ∧ Fit F F.length)) ∧ Kept w w'
def T5 (w0 : World) (F : Cs) (t5 t6 t7 : Value) (W : World) : Prop := ∃ (k : Nat) (x y : Int), k ≤ F.length ∧ t7 = .int .i64 (k : Int) ∧ t5 = .int .i64 x ∧ t6 = .int .i64 y ∧ Fit F k ∧ Kept w0 W
set_option maxRecDepth 100000 in
set_option maxHeartbeats 4000000 in
theorem sizeOK (w : World) (x0 : Int) (a : Option Addr) (c : Nat) (F : Cs) (h : CndsC w (.slice a F.length c) F) : Calls Try.prog 5 #[.int .i64 x0, .slice a F.length c] w (SizeB w x0 F) := by
  obtain ⟨a2, c2, e, hc1, hc2, _⟩ := Sl.len h
  injection e with e1 e2 e3
  subst e1 e3
  clear e2
  have HC := Lib.hid h
  clear h
  by_cases hx1 : x0 < 0
  · go_enter Try.func5, Try.ntmps5
    go_wp2_with fail
    go_ret
    exact ⟨⟨_, rfl, fun h => by cases h⟩, Kept.refl _⟩
  by_cases hx2 : 65536 < x0
  · go_enter Try.func5, Try.ntmps5
    go_wp2_with fail
    go_ret
    exact ⟨⟨_, rfl, fun h => by cases h⟩, Kept.refl _⟩
  by_cases hn : F.length ≤ 4096
  · go_enter Try.func5, Try.ntmps5
    go_wp2_with fail
    go_loopw [5, 6, 7] (fun t5 t6 t7 W => T5 w F t5 t6 t7 W) (fun _ _ t7 _ => F.length - (intOf t7).toNat)
    case atStart => exact ⟨0, _, _, Nat.zero_le _, rfl, rfl, rfl, fun i hi => absurd hi (by omega), Kept.refl _⟩
    case round =>
      obtain ⟨k, x, y, hk, rfl, rfl, rfl, hfit, hkw⟩ := hrel
      have HF := Lib.hid hfit
      have HK := Lib.hid hkw
      clear hfit hkw
      by_cases hlt : k < F.length
      · obtain ⟨b, off, ea, _, a1, c1, y0, y1, r1⟩ := (HC.out.kept HK.out).at_ hlt
        subst ea
        have k0 : (k : Int) < (F.length : Int) := by omega
        have hm1 := r1.2.1
        have hm2 : c1 ≤ 9223372036854775807 := by have := r1.2.2.1; unfold maxLen at this; exact this
        have HFS := Lib.hid (fun h0 => Fit.step HF.out h0)
        clear r1
        generalize hm : (at_ F k).L.length = m at *
        generalize hs : (at_ F k).s = sx at *
        have HM := Lib.hid hm
        have HS := Lib.hid hs
        clear hm hs
        by_cases hq : m ≤ 65536
        · by_cases hq2 : sx < 0
          · go_wp2_with fail
            go_ret
            exact ⟨⟨_, rfl, fun h => by cases h⟩, HK.out⟩
          · by_cases hq3 : 65536 < sx
            · go_wp2_with fail
              go_ret
              exact ⟨⟨_, rfl, fun h => by cases h⟩, HK.out⟩
            · have HFN : Hid (Fit F (k + 1)) := Lib.hid (HFS.out ⟨by rw [HM.out]; exact hq, by rw [HS.out]; omega, by rw [HS.out]; omega⟩)
              go_upto_region 13 with fail
              go_quiet (fail)
              go_wp2_with fail
              go_roundw
              case rel => exact ⟨k + 1, _, _, by omega, by go_num, rfl, rfl, HFN.out, HK.out.drewN _⟩
              case measure => simp [intOf]; omega
        · go_wp2_with fail
          go_ret
          exact ⟨⟨_, rfl, fun h => by cases h⟩, HK.out⟩
      · obtain rfl : k = F.length := by omega
        go_wp2_with fail
        all_goals go_ret
        all_goals exact ⟨⟨_, rfl, fun _ => ⟨by omega, by omega, hn, HF.out⟩⟩, HK.out⟩
  · go_enter Try.func5, Try.ntmps5
    go_wp2_with fail
    go_ret
    exact ⟨⟨_, rfl, fun h => by cases h⟩, Kept.refl _⟩
end Go.Proofs.Ytimllpocefbcbaa.wr
