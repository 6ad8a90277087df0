/-
  The comparison of bytes with a text, over this seat's program.
  Conditions: the bytes are the text's.
-/
import Derived.Test.YtdpljbhbnlcoaaaDx5
import Derived.Deep.QuietTactic
import Derived.BigQuiet
namespace Go.Proofs.Ytdpljbhbnlcoaaa.dx
open Go.ChangeShapes Go.WideShapes Go.ChangeAt Go.RowKit
open kit pr

theorem idxS (s : ByteArray) (k : Nat) (hk : k < s.size) (W : World) : (Instr.index 9 (.string s) (.int .i64 (k : Int))).run Try.prog W = .ok (.int .u8 ((bytesOf s).getD k 0)) W := by
  have hk2 : k < s.data.size := hk
  have e3 : s.data[k]? = some s.data[k] := Array.getElem?_eq_getElem hk2
  have e : (bytesOf s).getD k 0 = (s[k].toNat : Int) := by
    simp [bytesOf, List.getD, e3]
    rfl
  rw [e]
  simp [go_sem, hk]
def C5 (w : World) (n : Nat) (t : Value) (W : World) : Prop := ∃ k : Nat, k ≤ n ∧ t = .int .i64 (k : Int) ∧ Hid (Kept w W)
set_option maxHeartbeats 2000000 in
theorem sameT (q off c : Nat) (s : ByteArray) (w : World) (h : ∀ j, j < s.size → w.cell? ⟨q, off + j, none⟩ = some (.int .u8 ((bytesOf s).getD j 0))) (hs : s.size ≤ 1048576) :
    Calls Try.prog 20 #[.slice (some ⟨q, off, none⟩) s.size c, .string s] w fun e w' => e = .returned (.bool true) ∧ Kept w w' := by
  have H := Lib.hid h
  have HI := Lib.hid (fun (k : Nat) (hk : k < s.size) (W : World) => idxS s k hk W)
  clear h
  generalize hn : s.size = n at *
  go_enter Try.func20, Try.ntmps20
  go_wp2_with fail
  have HS : Hid (C5 w n (.int .i64 0) w) := Lib.hid ⟨0, Nat.zero_le _, rfl, Lib.hid (Kept.refl _)⟩
  go_loopw [5] (fun t W => C5 w n t W) (fun t _ => n - (intOf t).toNat)
  case atStart => exact HS.out
  case round =>
    obtain ⟨k, hk, rfl, HK⟩ := hrel
    clear HS
    by_cases hkn : k < n
    · have hki : (k : Int) < (n : Int) := by omega
      have c1 := HK.out.cell (H.out k hkn)
      have i1 := HI.out k hkn
      generalize (bytesOf s).getD k 0 = x at *
      go_wp2_with fail
      go_quiet (fail)
      go_wp2_with fail
      have HRR : Hid (C5 w n (.int .i64 ((k : Int) + 1)) (wr.drewN nq)) := Lib.hid ⟨k + 1, by omega, by go_num, Lib.hid (HK.out.drewN _)⟩
      go_roundw
      case rel => first | exact HRR.out | ((repeat apply Exists.intro); exact ⟨HRR.out, rfl⟩)
      case measure => simp [intOf]; omega
    · obtain rfl : n = k := by omega
      go_wp2_with fail
      go_ret
      exact ⟨rfl, HK.out⟩
end Go.Proofs.Ytdpljbhbnlcoaaa.dx
