/-
  The guards zzBytes of both laws.
  Conditions: the files are readable.
-/
import Derived.Test.YtgnccfofhcbjjaaGr
import Derived.LoopTactic
import Derived.Outline
import Derived.IntWalk
import Derived.Deep.QuietTactic
import Derived.BigQuiet
namespace Go.Proofs.Ytgnccfofhcbjjaa.lk
open Go.ChangeShapes Go.WideShapes Go.ChangeAt Go.RowKit
open kit dfs

def BytesB (w : World) (F : Ct) (e : Ending) (w' : World) : Prop := (∃ b, e = .returned (.bool b) ∧ (b = true → F.length ≤ 1048576 ∧ Lens F 1048576 F.length)) ∧ w = w'
def Aa (w0 : World) (n : Nat) (F : Ct) (t7 t8 : Value) (W : World) : Prop := ∃ (k : Nat) (x : Int), k ≤ n ∧ t8 = .int .i64 (k : Int) ∧ t7 = .int .i64 x ∧ Lens F 1048576 k ∧ W = w0
def Ba (w0 : World) (F : Ct) (k : Nat) (t7 t9 : Value) (W : World) : Prop := ∃ (j : Nat) (x : Int), j ≤ (fl F k).parts.length ∧ t9 = .int .i64 (j : Int) ∧ t7 = .int .i64 x ∧ Hid (∀ p, p < j → Len1 1048576 (prt (fl F k).parts p)) ∧ W = w0

set_option maxRecDepth 100000 in
set_option maxHeartbeats 8000000 in
theorem bytes5 (w : World) (a : Option Addr) (n c : Nat) (F : Ct) (s t u v : Int) (h : FilesC w (.slice a n c) F) (hF : F.length = n) (hm : n ≤ 9223372036854775807) :
    Calls Try.prog 5 #[.slice a n c, .int .u32 s, .int .u8 u, .int .u32 t, .int .u8 v] w (BytesB w F) := by
  have HN0 := Lib.hid hF
  clear hF
  by_cases hn : n ≤ 1048576
  · have HF := Lib.hid h
    clear h
    go_enter Try.func5, Try.ntmps5
    go_wp2_with fail
    go_loopw [11, 12] (fun t7 t8 W => Aa w n F t7 t8 W) (fun _ t8 _ => n - (intOf t8).toNat)
    case atStart => exact ⟨0, _, by omega, rfl, rfl, fun i hi => absurd hi (by omega), rfl⟩
    case round =>
      obtain ⟨k, x, hk, rfl, rfl, hs, rfl⟩ := hrel
      have HS := Lib.hid hs
      clear hs
      by_cases hlt : k < n
      · obtain ⟨b, off, rfl, _, ra, rc, pa, pc, _, _, _, c3, c4, _, ⟨hr1, hr2, _⟩, ⟨hp1, hp2, _⟩, _, hP⟩ := HF.out.at_ (k := k) (by rw [HN0.out]; exact hlt)
        have HP := Lib.hid hP
        have k0 : (k : Int) < (n : Int) := by omega
        have hrl : (fl F k).recs.length ≤ 9223372036854775807 := by omega
        have hpl : (fl F k).parts.length ≤ 9223372036854775807 := by omega
        clear hP
        by_cases hm1 : (fl F k).recs.length ≤ 1048576
        · by_cases hm2 : (fl F k).parts.length ≤ 1048576
          · have HN := Lib.hid (fun h2 => HS.out.step hm1 hm2 h2)
            generalize hmk : (fl F k).parts.length = m at *
            generalize (fl F k).recs.length = rl at *
            have HMK := Lib.hid hmk
            clear hmk HS
            go_wp2_with fail
            · go_ret
              exact ⟨⟨false, rfl, fun h => by cases h⟩, rfl⟩
            · go_ret
              exact ⟨⟨false, rfl, fun h => by cases h⟩, rfl⟩
            · go_loopw [11, 13] (fun t7 t9 W => Ba wr F k t7 t9 W) (fun _ t9 _ => m - (intOf t9).toNat)
              case atStart => exact ⟨0, _, by omega, rfl, rfl, Lib.hid (fun i hi => absurd hi (by omega)), rfl⟩
              case round =>
                obtain ⟨j, x, hj, rfl, rfl, HJ, rfl⟩ := hrel
                rw [HMK.out] at hj
                by_cases hlt2 : j < m
                · obtain ⟨b2, off2, rfl, _, ra2, rc2, da, dc, q0, q1, _, _, ⟨hr3, hr4, _⟩, ⟨hd3, hd4, _⟩, _, _⟩ := PartsC.at_ HP.out (k := j) (by rw [HMK.out]; exact hlt2)
                  have j0 : (j : Int) < (m : Int) := by omega
                  have HJ2 : Hid (Len1 1048576 (prt (fl F k).parts j) → ∀ p, p < j + 1 → Len1 1048576 (prt (fl F k).parts p)) := Lib.hid (fun h p hp => by
                    by_cases e : p = j
                    · rw [e]; exact h
                    · exact HJ.out p (by omega))
                  have hrl2 : (prt (fl F k).parts j).recs.length ≤ 9223372036854775807 := by omega
                  have hdl2 : (prt (fl F k).parts j).deps.length ≤ 9223372036854775807 := by omega
                  clear HJ
                  unfold Len1 at HJ2
                  generalize (prt (fl F k).parts j).recs.length = l1 at *
                  generalize (prt (fl F k).parts j).deps.length = l2 at *
                  by_cases hl1 : l1 ≤ 1048576
                  · by_cases hl2 : l2 ≤ 1048576
                    · have HJ3 := Lib.hid (HJ2.out ⟨hl1, hl2⟩)
                      clear HJ2
                      go_wp2_with fail
                      · go_ret
                        exact ⟨⟨false, rfl, fun h => by cases h⟩, rfl⟩
                      · go_ret
                        exact ⟨⟨false, rfl, fun h => by cases h⟩, rfl⟩
                      · go_roundw
                        case rel => exact ⟨j + 1, _, by rw [HMK.out]; omega, by go_num, rfl, HJ3, rfl⟩
                        case measure => simp [intOf]; omega
                    · clear HJ2
                      go_wp2_with fail
                      all_goals (go_ret; exact ⟨⟨false, rfl, fun h => by cases h⟩, rfl⟩)
                  · clear HJ2
                    go_wp2_with fail
                    go_ret
                    exact ⟨⟨false, rfl, fun h => by cases h⟩, rfl⟩
                · obtain rfl : j = m := by omega
                  have HN2 := Lib.hid (HN.out HJ.out)
                  clear HN HJ
                  go_wp2_with fail
                  go_roundw
                  case rel => exact ⟨k + 1, _, by omega, by go_num, rfl, HN2.out, rfl⟩
                  case measure => simp [intOf]; omega
          · generalize (fl F k).parts.length = m at *
            generalize (fl F k).recs.length = rl at *
            go_wp2_with fail
            all_goals (go_ret; exact ⟨⟨false, rfl, fun h => by cases h⟩, rfl⟩)
        · generalize (fl F k).recs.length = rl at *
          go_wp2_with fail
          go_ret
          exact ⟨⟨false, rfl, fun h => by cases h⟩, rfl⟩
      · obtain rfl : n = k := by omega
        go_wp2_with fail
        go_ret
        exact ⟨⟨true, rfl, fun _ => by rw [HN0.out]; exact ⟨hn, HS.out⟩⟩, rfl⟩
  · clear h
    go_enter Try.func5, Try.ntmps5
    go_wp2_with fail
    go_ret
    exact ⟨⟨false, rfl, fun h => by cases h⟩, rfl⟩

set_option maxRecDepth 100000 in
set_option maxHeartbeats 8000000 in
theorem bytes13 (w : World) (a : Option Addr) (n c : Nat) (F : Ct) (s : Int) (b0 : Bool) (h : FilesC w (.slice a n c) F) (hF : F.length = n) (hm : n ≤ 9223372036854775807) :
    Calls Try.prog 13 #[.slice a n c, .int .u32 s, .bool b0] w (BytesB w F) := by
  have HN0 := Lib.hid hF
  clear hF
  by_cases hn : n ≤ 1048576
  · have HF := Lib.hid h
    clear h
    go_enter Try.func13, Try.ntmps13
    go_wp2_with fail
    go_loopw [7, 8] (fun t7 t8 W => Aa w n F t7 t8 W) (fun _ t8 _ => n - (intOf t8).toNat)
    case atStart => exact ⟨0, _, by omega, rfl, rfl, fun i hi => absurd hi (by omega), rfl⟩
    case round =>
      obtain ⟨k, x, hk, rfl, rfl, hs, rfl⟩ := hrel
      have HS := Lib.hid hs
      clear hs
      by_cases hlt : k < n
      · obtain ⟨b, off, rfl, _, ra, rc, pa, pc, _, _, _, c3, c4, _, ⟨hr1, hr2, _⟩, ⟨hp1, hp2, _⟩, _, hP⟩ := HF.out.at_ (k := k) (by rw [HN0.out]; exact hlt)
        have HP := Lib.hid hP
        have k0 : (k : Int) < (n : Int) := by omega
        have hrl : (fl F k).recs.length ≤ 9223372036854775807 := by omega
        have hpl : (fl F k).parts.length ≤ 9223372036854775807 := by omega
        clear hP
        by_cases hm1 : (fl F k).recs.length ≤ 1048576
        · by_cases hm2 : (fl F k).parts.length ≤ 1048576
          · have HN := Lib.hid (fun h2 => HS.out.step hm1 hm2 h2)
            generalize hmk : (fl F k).parts.length = m at *
            generalize (fl F k).recs.length = rl at *
            have HMK := Lib.hid hmk
            clear hmk HS
            go_wp2_with fail
            · go_ret
              exact ⟨⟨false, rfl, fun h => by cases h⟩, rfl⟩
            · go_ret
              exact ⟨⟨false, rfl, fun h => by cases h⟩, rfl⟩
            · go_loopw [7, 9] (fun t7 t9 W => Ba wr F k t7 t9 W) (fun _ t9 _ => m - (intOf t9).toNat)
              case atStart => exact ⟨0, _, by omega, rfl, rfl, Lib.hid (fun i hi => absurd hi (by omega)), rfl⟩
              case round =>
                obtain ⟨j, x, hj, rfl, rfl, HJ, rfl⟩ := hrel
                rw [HMK.out] at hj
                by_cases hlt2 : j < m
                · obtain ⟨b2, off2, rfl, _, ra2, rc2, da, dc, q0, q1, _, _, ⟨hr3, hr4, _⟩, ⟨hd3, hd4, _⟩, _, _⟩ := PartsC.at_ HP.out (k := j) (by rw [HMK.out]; exact hlt2)
                  have j0 : (j : Int) < (m : Int) := by omega
                  have HJ2 : Hid (Len1 1048576 (prt (fl F k).parts j) → ∀ p, p < j + 1 → Len1 1048576 (prt (fl F k).parts p)) := Lib.hid (fun h p hp => by
                    by_cases e : p = j
                    · rw [e]; exact h
                    · exact HJ.out p (by omega))
                  have hrl2 : (prt (fl F k).parts j).recs.length ≤ 9223372036854775807 := by omega
                  have hdl2 : (prt (fl F k).parts j).deps.length ≤ 9223372036854775807 := by omega
                  clear HJ
                  unfold Len1 at HJ2
                  generalize (prt (fl F k).parts j).recs.length = l1 at *
                  generalize (prt (fl F k).parts j).deps.length = l2 at *
                  by_cases hl1 : l1 ≤ 1048576
                  · by_cases hl2 : l2 ≤ 1048576
                    · have HJ3 := Lib.hid (HJ2.out ⟨hl1, hl2⟩)
                      clear HJ2
                      go_wp2_with fail
                      · go_ret
                        exact ⟨⟨false, rfl, fun h => by cases h⟩, rfl⟩
                      · go_ret
                        exact ⟨⟨false, rfl, fun h => by cases h⟩, rfl⟩
                      · go_roundw
                        case rel => exact ⟨j + 1, _, by rw [HMK.out]; omega, by go_num, rfl, HJ3, rfl⟩
                        case measure => simp [intOf]; omega
                    · clear HJ2
                      go_wp2_with fail
                      all_goals (go_ret; exact ⟨⟨false, rfl, fun h => by cases h⟩, rfl⟩)
                  · clear HJ2
                    go_wp2_with fail
                    go_ret
                    exact ⟨⟨false, rfl, fun h => by cases h⟩, rfl⟩
                · obtain rfl : j = m := by omega
                  have HN2 := Lib.hid (HN.out HJ.out)
                  clear HN HJ
                  go_wp2_with fail
                  go_roundw
                  case rel => exact ⟨k + 1, _, by omega, by go_num, rfl, HN2.out, rfl⟩
                  case measure => simp [intOf]; omega
          · generalize (fl F k).parts.length = m at *
            generalize (fl F k).recs.length = rl at *
            go_wp2_with fail
            all_goals (go_ret; exact ⟨⟨false, rfl, fun h => by cases h⟩, rfl⟩)
        · generalize (fl F k).recs.length = rl at *
          go_wp2_with fail
          go_ret
          exact ⟨⟨false, rfl, fun h => by cases h⟩, rfl⟩
      · obtain rfl : n = k := by omega
        go_wp2_with fail
        go_ret
        exact ⟨⟨true, rfl, fun _ => by rw [HN0.out]; exact ⟨hn, HS.out⟩⟩, rfl⟩
  · clear h
    go_enter Try.func13, Try.ntmps13
    go_wp2_with fail
    go_ret
    exact ⟨⟨false, rfl, fun h => by cases h⟩, rfl⟩
end Go.Proofs.Ytgnccfofhcbjjaa.lk
