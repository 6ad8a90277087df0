/-
  The redundancy test over this seat's program: a prefix of a list of conditions makes it redundant, a longer list does not.
  Conditions: the conditions are of the layer and supports fragment.
-/
import Derived.Test.YtdpljbhbnlcoaabRn4
namespace Go.Proofs.Ytdpljbhbnlcoaab.rd
open Go.ChangeShapes Go.WideShapes Go.ChangeAt Go.RowKit
open kit

def C5b (w : World) (n : Nat) (t : Value) (W : World) : Prop := ∃ k : Nat, k ≤ n ∧ t = .int .i64 (k : Int) ∧ Hid (Kept w W)
theorem Conds.at {w : World} {b n k : Nat} {f : Nat → Nat} (h : Conds w b n k f) {j : Nat} (hj : j < k) : ∃ (A1 : Option Addr) (n1 : Nat) (A2 : Option Addr) (n2 : Nat), w.cell? ⟨b, j * 3, none⟩ = some (.slice none 0 0) ∧ w.cell? ⟨b, j * 3 + 1, none⟩ = some (.slice A1 n1 n1) ∧ w.cell? ⟨b, j * 3 + 2, none⟩ = some (.slice A2 n2 n2) ∧ Tok w (.slice A1 n1 n1) (f j % 256) ∧ Tok w (.slice A2 n2 n2) (f j / 256) := by
  obtain ⟨cs, h1, h2, h3⟩ := h
  obtain ⟨L, S, a1, a2, a3, a4, a5⟩ := h3 j hj
  obtain ⟨A1, n1, rfl⟩ := a4.form
  obtain ⟨A2, n2, rfl⟩ := a5.form
  exact ⟨A1, n1, A2, n2, (h1.cell _).trans a1, (h1.cell _).trans a2, (h1.cell _).trans a3, a4, a5⟩
set_option maxRecDepth 100000 in
set_option maxHeartbeats 4000000 in
theorem redNo (b1 n1 c1 b2 n2 c2 : Nat) (w : World) (h : n1 < n2) (hn : n2 ≤ 1048576) : Calls Try.prog 9 #[.slice (some ⟨b1, 0, none⟩) n1 c1, .slice (some ⟨b2, 0, none⟩) n2 c2] w fun e w' => e = .returned (.bool false) ∧ w = w' := by
  have hi : (n1 : Int) < (n2 : Int) := by omega
  go_enter Try.func9, Try.ntmps9
  go_wp2
  go_ret
  exact ⟨rfl, rfl⟩
set_option maxRecDepth 100000 in
set_option maxHeartbeats 4000000 in
theorem redYes (b1 n1 c1 b2 n2 c2 : Nat) (f g : Nat → Nat) (w : World) (h1 : Conds w b1 n1 n1 f) (h2 : Conds w b2 n2 n2 g) (hle : n2 ≤ n1) (hfg : ∀ j, j < n2 → f j = g j) (hn : n1 ≤ 1048576) : Calls Try.prog 9 #[.slice (some ⟨b1, 0, none⟩) n1 c1, .slice (some ⟨b2, 0, none⟩) n2 c2] w fun e w' => e = .returned (.bool true) ∧ Kept w w' := by
  have hi : ¬ (n1 : Int) < (n2 : Int) := by omega
  have H1 := Lib.hid h1
  have H2 := Lib.hid h2
  have HFG := Lib.hid hfg
  clear h1 h2 hfg
  go_enter Try.func9, Try.ntmps9
  go_wp2_with fail
  have HS : Hid (C5b w n2 (.int .i64 0) w) := Lib.hid ⟨0, by omega, rfl, Lib.hid (Kept.refl _)⟩
  go_loopw [5, 6, 7, 8, 9] (fun t5 _ _ _ _ W => C5b w n2 t5 W) (fun t5 _ _ _ _ _ => n2 - (intOf t5).toNat)
  case atStart => exact HS.out
  case round =>
    obtain ⟨k, hk, rfl, HK⟩ := hrel
    clear HS
    by_cases hkn : k < n2
    · have hki : (k : Int) < (n2 : Int) := by omega
      have hki1 : (k : Int) < (n1 : Int) := by omega
      obtain ⟨A1, m1, A2, m2, p0, p1, p2, t1, t2⟩ := (H1.out.kept HK.out).at (j := k) (by omega)
      obtain ⟨B1, l1, B2, l2, q0, q1, q2, s1, s2⟩ := (H2.out.kept HK.out).at hkn
      rw [← HFG.out k hkn] at s1 s2
      have T1 := Lib.hid t1
      have T2 := Lib.hid t2
      have S1 := Lib.hid s1
      have S2 := Lib.hid s2
      clear t1 t2 s1 s2
      go_upto_region 7 with (fail)
      obtain ⟨wm, hwm⟩ : ∃ wm, wm = wr.alloc (.cells #[.slice none 0 0, .slice A1 m1 m1, .slice A2 m2 m2] 32) := ⟨_, rfl⟩
      have NM : Hid (Blk wm wr.heap.size 32 [.slice none 0 0, .slice A1 m1 m1, .slice A2 m2 m2]) := Lib.hid (by rw [hwm]; exact Blk.new wr 32 [.slice none 0 0, .slice A1 m1 m1, .slice A2 m2 m2])
      have KM : Hid (Kept wr wm) := Lib.hid (by rw [hwm]; exact (Kept.refl _).alloc _)
      have SM : Hid (wm.heap.size = wr.heap.size + 1) := Lib.hid (by rw [hwm]; simp)
      rw [← hwm]
      clear hwm p0 p1 p2
      have r0 := KM.out.cell q0
      have r1 := KM.out.cell q1
      have r2 := KM.out.cell q2
      clear q0 q1 q2
      go_upto_region 8 with (fail)
      obtain ⟨wb, hwb⟩ : ∃ wb, wb = wm.alloc (.cells #[.slice none 0 0, .slice B1 l1 l1, .slice B2 l2 l2] 32) := ⟨_, rfl⟩
      have NB1 : Hid (Blk wb wr.heap.size 32 [.slice none 0 0, .slice A1 m1 m1, .slice A2 m2 m2]) := Lib.hid (by rw [hwb]; exact NM.out.alloc _)
      have NB2 : Hid (Blk wb wm.heap.size 32 [.slice none 0 0, .slice B1 l1 l1, .slice B2 l2 l2]) := Lib.hid (by rw [hwb]; exact Blk.new _ _ _)
      have KB : Hid (Kept wr wb) := Lib.hid (by rw [hwb]; exact KM.out.alloc _)
      rw [← hwb]
      clear hwb r0 r1 r2 NM KM SM
      generalize wm.heap.size = q7 at *
      generalize wr.heap.size = q6 at *
      have x1 : wb.cell? ⟨q6, 1, none⟩ = some (.slice A1 m1 m1) := NB1.out.cell 1
      have y1 : wb.cell? ⟨q7, 1, none⟩ = some (.slice B1 l1 l1) := NB2.out.cell 1
      have E1 := Lib.hid (tokensEq _ _ _ wb (T1.out.kept KB.out) (S1.out.kept KB.out))
      go_wp2_with fail
      refine E1.out.mono ?_
      rintro e w5 ⟨rfl, k5⟩
      have x2 : w5.cell? ⟨q6, 2, none⟩ = some (.slice A2 m2 m2) := k5.cell (NB1.out.cell 2)
      have y2 : w5.cell? ⟨q7, 2, none⟩ = some (.slice B2 l2 l2) := k5.cell (NB2.out.cell 2)
      have K5 := Lib.hid (KB.out.trans k5)
      have E2 := Lib.hid (tokensEq _ _ _ w5 (T2.out.kept K5.out) (S2.out.kept K5.out))
      have NB1 := Lib.hid (NB1.out.kept k5)
      have NB2 := Lib.hid (NB2.out.kept k5)
      clear k5 x1 y1 E1
      go_wp2_with fail
      refine E2.out.mono ?_
      rintro e w6 ⟨rfl, k6⟩
      have x0 : w6.cell? ⟨q6, 0, none⟩ = some (.slice none 0 0) := k6.cell (NB1.out.cell 0)
      have y0 : w6.cell? ⟨q7, 0, none⟩ = some (.slice none 0 0) := k6.cell (NB2.out.cell 0)
      have K6 := Lib.hid (K5.out.trans k6)
      clear k6 x2 y2 E2
      go_wp2_with fail
      refine (mediaEq w6).mono ?_
      rintro e w7 ⟨rfl, rfl⟩
      have HRR : Hid (C5b w n2 (.int .i64 ((k : Int) + 1)) w6) := Lib.hid ⟨k + 1, by omega, by go_num, Lib.hid (HK.out.trans K6.out)⟩
      go_wp2_with fail
      go_roundw
      case rel => first | exact HRR.out | ((repeat apply Exists.intro); exact ⟨HRR.out, rfl⟩)
      case measure => simp [intOf]; omega
    · obtain rfl : n2 = k := by omega
      go_wp2_with fail
      go_ret
      exact ⟨rfl, HK.out⟩
theorem zzYes (b1 n1 c1 b2 n2 c2 : Nat) (f g : Nat → Nat) (w : World) (h1 : Conds w b1 n1 n1 f) (h2 : Conds w b2 n2 n2 g) (hle : n2 ≤ n1) (hfg : ∀ j, j < n2 → f j = g j) (hn : n1 ≤ 1048576) : Calls Try.prog 7 #[.slice (some ⟨b1, 0, none⟩) n1 c1, .slice (some ⟨b2, 0, none⟩) n2 c2] w fun e w' => e = .returned (.bool true) ∧ Kept w w' := by
  have HR := Lib.hid (redYes b1 n1 c1 b2 n2 c2 f g w h1 h2 hle hfg hn)
  clear h1 h2 hfg
  go_enter Try.func7, Try.ntmps7
  go_wp2_with fail
  refine HR.out.mono ?_
  rintro e w5 ⟨rfl, k5⟩
  have K5 := Lib.hid k5
  clear k5
  go_wp2_with fail
  go_ret
  exact ⟨rfl, K5.out⟩
theorem zzNo (b1 n1 c1 b2 n2 c2 : Nat) (w : World) (h : n1 < n2) (hn : n2 ≤ 1048576) : Calls Try.prog 7 #[.slice (some ⟨b1, 0, none⟩) n1 c1, .slice (some ⟨b2, 0, none⟩) n2 c2] w fun e w' => e = .returned (.bool false) ∧ w = w' := by
  have HR := Lib.hid (redNo b1 n1 c1 b2 n2 c2 w h hn)
  go_enter Try.func7, Try.ntmps7
  go_wp2_with fail
  refine HR.out.mono ?_
  rintro e w5 ⟨rfl, rfl⟩
  go_wp2_with fail
  go_ret
  exact ⟨rfl, rfl⟩
end Go.Proofs.Ytdpljbhbnlcoaab.rd
