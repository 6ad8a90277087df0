/-
  The walk of tsSame over this seat's program: it answers true where the program's marks are the model's.
  Conditions: the marks lie in memory and agree.
-/
import Derived.Test.YtbdchplgefgkjabTk
namespace Go.Proofs.Ytbdchplgefgkjab.tm
open Go.ChangeShapes Go.WideShapes Go.ChangeAt Go.RowKit
open kit dfs

def S9 (w : World) (n : Nat) (t9 : Value) (W : World) : Prop := ∃ i : Nat, i ≤ n ∧ t9 = .int .i64 (i : Int) ∧ Kept w W
def Yes (w : World) (e : Ending) (w' : World) : Prop := e = .returned (.bool true) ∧ Kept w w'

set_option maxRecDepth 100000 in
set_option maxHeartbeats 16000000 in
theorem same (w : World) (cb LB ob n rb q q1 q2 : Nat) (J PB : Nat → Nat) (DB : Nat → Nat → Nat) (F : Ct) (d R : Nd → Bool) (G : Nat → Nat) (h : Mem w cb LB ob n J PB DB F d) (hr : ∀ i, i < n → w.cell? ⟨rb, i, none⟩ = some (.pointer (some ⟨J i, 0, none⟩)))
    (hq : Bools w q n (fun i => d (.inl i))) (hm : Marks w q1 q2 n G F R) (he : ∀ x, In n F x → d x = R x) :
    Calls Try.prog 15 #[.slice (some ⟨rb, 0, none⟩) n n, .slice (some ⟨q, 0, none⟩) n n, .slice (some ⟨q1, 0, none⟩) n n, .slice (some ⟨q2, 0, none⟩) n n] w (Yes w) := by
  have hn := h.fit.top
  have HNP := Lib.hid h.fit.np
  have HH := Lib.hid h
  have HR := Lib.hid hr
  have HQ := Lib.hid hq
  have HM := Lib.hid hm
  have HE := Lib.hid he
  clear h hr hq hm he
  go_enter Try.func15, Try.ntmps15
  go_wp2_with fail
  go_loopw [9] (fun t9 W => S9 w n t9 W) (fun t9 _ => n - (intOf t9).toNat)
  case atStart => exact ⟨0, Nat.zero_le _, rfl, Kept.refl _⟩
  case round =>
    obtain ⟨i, hi, rfl, hK⟩ := hrel
    obtain ⟨wo, rfl⟩ : ∃ wo : World, wo = wr := ⟨_, rfl⟩
    have HK := Lib.hid hK
    clear hK
    by_cases hlt : i < n
    · have i0 : (0 : Int) ≤ (i : Int) := by omega
      have i1 : (i : Int) < (n : Int) := by omega
      have c1 := (HQ.out.kept HK.out).cell hlt
      have c2 := ((HM.out.kept HK.out).cellF hlt).1
      rw [← HE.out (.inl i) hlt] at c2
      have hnp := HNP.out i hlt
      generalize d (.inl i) = di at *
      go_wp2_with fail
      go_quiet (fail)
      clear c1 c2
      have HK2 := Lib.hid (HK.out.drewN nq)
      have r1 := HK2.out.cell (HR.out i hlt)
      have r2 := HK2.out.cell (HH.out.file hlt).2.2.2.1
      have r3 := (HM.out.kept HK2.out).row hlt
      go_wp2_with fail
      clear r1 r2 r3
      generalize wo.drewN nq = wp at *
      go_loopw [11] (fun t11 W => S9 w (np F i) t11 W) (fun t11 _ => np F i - (intOf t11).toNat)
      case atStart => exact ⟨0, Nat.zero_le _, rfl, HK2.out⟩
      case round =>
        obtain ⟨j, hj, rfl, hK⟩ := hrel
        have HK3 := Lib.hid hK
        clear hK
        by_cases hlt2 : j < np F i
        · have j0 : (0 : Int) ≤ (j : Int) := by omega
          have j1 : (j : Int) < (np F i : Int) := by omega
          have c1 := ((HH.out.kept HK3.out).part hlt hlt2).1
          have c2 := (HM.out.kept HK3.out).row hlt
          have c3 := ((HM.out.kept HK3.out).cellP hlt hlt2).1
          rw [← HE.out (.inr (i, j)) ⟨hlt, hlt2⟩] at c3
          generalize d (.inr (i, j)) = dij at *
          go_wp2_with fail
          go_quiet (fail)
          have HK4 := Lib.hid (HK3.out.drewN nq)
          clear c1 c2 c3
          go_wp2_with fail
          go_roundw
          case rel => exact ⟨j + 1, by omega, by go_num, HK4.out⟩
          case measure => simp [intOf]; omega
        · obtain rfl : j = np F i := by omega
          go_wp2_with fail
          go_roundw
          case rel => exact ⟨i + 1, by omega, by go_num, HK3.out⟩
          case measure => simp [intOf]; omega
    · obtain rfl : n = i := by omega
      go_wp2_with fail
      go_ret
      exact ⟨rfl, HK.out⟩
end Go.Proofs.Ytbdchplgefgkjab.tm
