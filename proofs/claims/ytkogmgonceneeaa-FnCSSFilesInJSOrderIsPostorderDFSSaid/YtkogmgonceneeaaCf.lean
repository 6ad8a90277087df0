/-
  The guard zzBytes of FnCSSFilesInJSOrderIsPostorderDFS.
  Conditions: the files are readable.
-/
import Derived.Test.YtkogmgonceneeaaCa
namespace Go.Proofs.Ytkogmgonceneeaa.css
open Go.ChangeShapes Go.WideShapes Go.ChangeAt Go.RowKit
open kit dfs

/-- the lengths of the parts below (k, j) are at most m -/
def Lens (F : Ct) (m k : Nat) : Prop := ∀ i, i < k → np F i ≤ m ∧ ∀ p, p < np F i → (imps F i p).length ≤ m
theorem Lens.step {F : Ct} {m k : Nat} (h : Lens F m k) (h1 : np F k ≤ m) (h2 : ∀ p, p < np F k → (imps F k p).length ≤ m) : Lens F m (k + 1) := fun i hi => by
  by_cases e : i = k
  · rw [e]; exact ⟨h1, h2⟩
  · exact h i (by omega)
def BytesB (w : World) (n : Nat) (F : Ct) (e : Ending) (w' : World) : Prop := (∃ b, e = .returned (.bool b) ∧ (b = true → n ≤ 1048576 ∧ Lens F 1048576 n)) ∧ Kept w w'
def A4 (w0 : World) (n : Nat) (F : Ct) (t7 t8 : Value) (W : World) : Prop := ∃ (k : Nat) (x : Int), k ≤ n ∧ t8 = .int .i64 (k : Int) ∧ t7 = .int .i64 x ∧ Lens F 1048576 k ∧ W = w0
def B4 (w0 : World) (F : Ct) (k : Nat) (t7 t9 : Value) (W : World) : Prop := ∃ (j : Nat) (x : Int), j ≤ np F k ∧ t9 = .int .i64 (j : Int) ∧ t7 = .int .i64 x ∧ Hid (∀ p, p < j → (imps F k p).length ≤ 1048576) ∧ W = w0

set_option maxRecDepth 100000 in
set_option maxHeartbeats 8000000 in
theorem bytes (w : World) (a : Option Addr) (n c : Nat) (F : Ct) (s : Int) (h : FilesC w a n F) (hm : n ≤ 9223372036854775807) :
    Calls Try.prog 4 #[.slice a n c, .int .u32 s] w (BytesB w n F) := by
  by_cases hn : n ≤ 1048576
  · have HK0 := Lib.hid (Kept.refl w)
    have HF := Lib.hid (h.kept HK0.out)
    clear h
    go_enter Try.func4, Try.ntmps4
    go_wp2_with fail
    go_loopw [5, 6] (fun t7 t8 W => A4 w n F t7 t8 W) (fun _ t8 _ => n - (intOf t8).toNat)
    case atStart => exact ⟨0, _, by omega, rfl, rfl, fun i hi => absurd hi (by omega), rfl⟩
    case round =>
      obtain ⟨k, x, hk, rfl, rfl, hs, rfl⟩ := hrel
      have HS := Lib.hid hs
      clear hs
      by_cases hlt : k < n
      · obtain ⟨b, off, pa, pc, rfl, _, c0, _, _, _, hpc, hpm, _, hP⟩ := HF.out.at_ hlt
        have HP := Lib.hid hP
        have k0 : (k : Int) < (n : Int) := by omega
        have hnp : np F k ≤ 9223372036854775807 := by omega
        clear hP
        by_cases hm2 : np F k ≤ 1048576
        · have HN := Lib.hid (fun h2 => HS.out.step hm2 h2)
          generalize hmk : np F k = m at *
          have HMK := Lib.hid hmk
          clear hmk HS
          go_wp2_with fail
          · go_ret
            exact ⟨⟨false, rfl, fun h => by cases h⟩, HK0.out⟩
          · go_loopw [5, 7] (fun t7 t9 W => B4 wr F k t7 t9 W) (fun _ t9 _ => m - (intOf t9).toNat)
            case atStart => exact ⟨0, _, by omega, rfl, rfl, Lib.hid (fun i hi => absurd hi (by omega)), rfl⟩
            case round =>
              obtain ⟨j, x, hj, rfl, rfl, HJ, rfl⟩ := hrel
              rw [HMK.out] at hj
              by_cases hlt2 : j < m
              · obtain ⟨b2, off2, da, dc, rfl, _, c2, hd1, hd2, _, _⟩ := part_at HP.out (p := j) (by rw [HMK.out]; exact hlt2)
                have j0 : (j : Int) < (m : Int) := by omega
                have HJ2 : Hid ((imps F k j).length ≤ 1048576 → ∀ p, p < j + 1 → (imps F k p).length ≤ 1048576) := Lib.hid (fun h p hp => by
                  by_cases e : p = j
                  · rw [e]; exact h
                  · exact HJ.out p (by omega))
                have hd3 : (imps F k j).length ≤ 9223372036854775807 := by omega
                clear HJ
                generalize (imps F k j).length = l at *
                by_cases hl : l ≤ 1048576
                · have HJ3 := Lib.hid (HJ2.out hl)
                  clear HJ2
                  go_wp2_with fail
                  · go_ret
                    exact ⟨⟨false, rfl, fun h => by cases h⟩, HK0.out⟩
                  · go_roundw
                    case rel => exact ⟨j + 1, _, by rw [HMK.out]; omega, by go_num, rfl, HJ3, rfl⟩
                    case measure => simp [intOf]; omega
                · clear HJ2
                  go_wp2_with fail
                  go_ret
                  exact ⟨⟨false, rfl, fun h => by cases h⟩, HK0.out⟩
              · obtain rfl : j = m := by omega
                have HN2 := Lib.hid (HN.out HJ.out)
                clear HN HJ
                go_wp2_with fail
                go_roundw
                case rel => exact ⟨k + 1, _, by omega, by go_num, rfl, HN2.out, rfl⟩
                case measure => simp [intOf]; omega
        · generalize np F k = m at *
          go_wp2_with fail
          go_ret
          exact ⟨⟨false, rfl, fun h => by cases h⟩, HK0.out⟩
      · obtain rfl : n = k := by omega
        go_wp2_with fail
        go_ret
        exact ⟨⟨true, rfl, fun _ => ⟨hn, HS.out⟩⟩, HK0.out⟩
  · clear h
    go_enter Try.func4, Try.ntmps4
    go_wp2_with fail
    go_ret
    exact ⟨⟨false, rfl, fun h => by cases h⟩, Kept.refl w⟩
end Go.Proofs.Ytkogmgonceneeaa.css
