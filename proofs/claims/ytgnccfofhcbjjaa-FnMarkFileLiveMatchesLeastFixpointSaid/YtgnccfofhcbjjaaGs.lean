/-
  lkB1SizeOf over this seat's program.
  Conditions: the files are readable and their lengths bounded.
-/
import Derived.Test.YtgnccfofhcbjjaaGa
namespace Go.Proofs.Ytgnccfofhcbjjaa.lk
open Go.ChangeShapes Go.WideShapes Go.ChangeAt Go.RowKit
open kit dfs

def Len1X (x : Nat) (p : Prt) : Prop := p.recs.length * 4 ≤ x ∧ p.deps.length * 8 ≤ x
def LensX (F : Ct) (x k : Nat) : Prop := ∀ i, i < k → (fl F i).recs.length * 8 ≤ x ∧ (fl F i).parts.length * 56 ≤ x ∧ ∀ p, p < (fl F i).parts.length → Len1X x (prt (fl F i).parts p)
theorem LensX.mono {F : Ct} {x y k : Nat} (h : LensX F x k) (hx : x ≤ y) : LensX F y k := fun i hi =>
  ⟨Nat.le_trans (h i hi).1 hx, Nat.le_trans (h i hi).2.1 hx, fun p hp => ⟨Nat.le_trans ((h i hi).2.2 p hp).1 hx, Nat.le_trans ((h i hi).2.2 p hp).2 hx⟩⟩
theorem LensX.step {F : Ct} {x k : Nat} (h : LensX F x k) (h0 : (fl F k).recs.length * 8 ≤ x) (h1 : (fl F k).parts.length * 56 ≤ x) (h2 : ∀ p, p < (fl F k).parts.length → Len1X x (prt (fl F k).parts p)) : LensX F x (k + 1) := fun i hi => by
  by_cases e : i = k
  · rw [e]; exact ⟨h0, h1, h2⟩
  · exact h i (by omega)
def SizeI (w : World) (n : Nat) (F : Ct) (e : Ending) (w' : World) : Prop := (∃ x : Int, e = .returned (.int .i64 x) ∧ (x ≤ 1048576 → n ≤ 18724 ∧ Lens F 262144 n)) ∧ w = w'
def A6 (n : Nat) (F : Ct) (t3 t4 : Value) : Prop := ∃ (k x : Nat), k ≤ n ∧ t4 = .int .i64 (k : Int) ∧ t3 = .int .i64 (x : Int) ∧ x ≤ 1000000000 ∧ Hid (LensX F x k ∧ n * 56 ≤ x)
def B6 (n : Nat) (F : Ct) (k : Nat) (t3 t5 : Value) : Prop := ∃ (j x : Nat), j ≤ (fl F k).parts.length ∧ t5 = .int .i64 (j : Int) ∧ t3 = .int .i64 (x : Int) ∧ x ≤ 1000000000 ∧ Hid ((LensX F x k ∧ n * 56 ≤ x) ∧ (fl F k).recs.length * 8 ≤ x ∧ (fl F k).parts.length * 56 ≤ x ∧ ∀ p, p < j → Len1X x (prt (fl F k).parts p))

set_option maxRecDepth 100000 in
set_option maxHeartbeats 8000000 in
theorem size (w : World) (a : Option Addr) (n c : Nat) (F : Ct) (h : FilesC w (.slice a n c) F) (hF : F.length = n) (hn : n ≤ 1048576) (hl : Lens F 1048576 n) :
    Calls Try.prog 6 #[.slice a n c] w (SizeI w n F) := by
  have HF := Lib.hid h
  have HL := Lib.hid hl
  have HN0 := Lib.hid hF
  clear h hl hF
  go_enter Try.func6, Try.ntmps6
  go_wp2_with fail
  go_loop [3, 4] (fun t3 t4 => A6 n F t3 t4) (fun _ t4 => n - (intOf t4).toNat)
  case atStart => exact ⟨0, 56 * n, by omega, rfl, by go_num, by omega, Lib.hid ⟨fun i hi => absurd hi (by omega), by omega⟩⟩
  case round =>
    obtain ⟨k, x, hk, rfl, rfl, hx, HX⟩ := hrel
    by_cases hlt : k < n
    · obtain ⟨b, off, rfl, _, ra, rc, pa, pc, _, _, _, c3, c4, _, ⟨hr1, hr2, _⟩, ⟨hp1, hp2, _⟩, _, hP⟩ := HF.out.at_ (k := k) (by rw [HN0.out]; exact hlt)
      have HP := Lib.hid hP
      have k0 : (k : Int) < (n : Int) := by omega
      have hrl : (fl F k).recs.length ≤ 1048576 := (HL.out k hlt).1
      have hpl : (fl F k).parts.length ≤ 1048576 := (HL.out k hlt).2.1
      have HLk := Lib.hid (HL.out k hlt).2.2
      clear hP
      generalize hmk : (fl F k).parts.length = m at *
      generalize hrk : (fl F k).recs.length = r at *
      have HMK := Lib.hid hmk
      have HRK := Lib.hid hrk
      clear hmk hrk
      by_cases hbig : x ≤ 2097152
      · have hx2 : x + 8 * r + 56 * m ≤ 1000000000 := by omega
        have HB0 : Hid (B6 n F k (.int .i64 ((x : Int) + (r : Int) * 8 + (m : Int) * 56)) (.int .i64 0)) := Lib.hid ⟨0, x + 8 * r + 56 * m, Nat.zero_le _, rfl, by go_num, hx2, Lib.hid ⟨⟨HX.out.1.mono (by omega), by have := HX.out.2; omega⟩, by rw [HRK.out]; omega, by rw [HMK.out]; omega, fun p hp => absurd hp (by omega)⟩⟩
        clear HX
        go_wp2_with fail
        go_loop [3, 5] (fun t3 t5 => B6 n F k t3 t5) (fun _ t5 => m - (intOf t5).toNat)
        case atStart => exact HB0.out
        case round =>
          obtain ⟨j, y, hj, rfl, rfl, hy, HJ⟩ := hrel
          clear HB0
          rw [HMK.out] at hj
          by_cases hlt2 : j < m
          · obtain ⟨b2, off2, rfl, _, ra2, rc2, da, dc, q0, q1, _, _, ⟨hr3, hr4, _⟩, ⟨hd3, hd4, _⟩, _, _⟩ := PartsC.at_ HP.out (k := j) (by rw [HMK.out]; exact hlt2)
            have j0 : (j : Int) < (m : Int) := by omega
            have hl1 : (prt (fl F k).parts j).recs.length ≤ 1048576 := (HLk.out j hlt2).1
            have hl2 : (prt (fl F k).parts j).deps.length ≤ 1048576 := (HLk.out j hlt2).2
            have HJ2 : Hid (∀ z, y + 4 * (prt (fl F k).parts j).recs.length + 8 * (prt (fl F k).parts j).deps.length = z → (LensX F z k ∧ n * 56 ≤ z) ∧ (fl F k).recs.length * 8 ≤ z ∧ (fl F k).parts.length * 56 ≤ z ∧ ∀ p, p < j + 1 → Len1X z (prt (fl F k).parts p)) := Lib.hid (fun z hz => ⟨⟨HJ.out.1.1.mono (by omega), by have := HJ.out.1.2; omega⟩, by have := HJ.out.2.1; omega, by have := HJ.out.2.2.1; omega, fun p hp => by
              by_cases e : p = j
              · rw [e]; exact ⟨by omega, by omega⟩
              · have := HJ.out.2.2.2 p (by omega); exact ⟨Nat.le_trans this.1 (by omega), Nat.le_trans this.2 (by omega)⟩⟩)
            clear HJ
            generalize (prt (fl F k).parts j).recs.length = l1 at *
            generalize (prt (fl F k).parts j).deps.length = l2 at *
            by_cases hbig2 : y ≤ 2097152
            · have HJ3 := Lib.hid (HJ2.out _ rfl)
              clear HJ2
              go_wp2_with fail
              go_round
              case rel => exact ⟨j + 1, y + 4 * l1 + 8 * l2, by rw [HMK.out]; omega, by go_num, by go_num, by omega, HJ3⟩
              case measure => simp [intOf]; omega
            · clear HJ2
              go_wp2_with fail
              go_ret
              exact ⟨⟨_, rfl, fun h => absurd h (by omega)⟩, rfl⟩
          · obtain rfl : j = m := by omega
            have HN2 : Hid (LensX F y (k + 1) ∧ n * 56 ≤ y) := Lib.hid ⟨HJ.out.1.1.step HJ.out.2.1 HJ.out.2.2.1 (by rw [HMK.out]; exact HJ.out.2.2.2), HJ.out.1.2⟩
            clear HJ
            go_wp2_with fail
            go_round
            case rel => exact ⟨k + 1, y, by omega, by go_num, rfl, hy, HN2⟩
            case measure => simp [intOf]; omega
      · clear HX
        go_wp2_with fail
        go_ret
        exact ⟨⟨_, rfl, fun h => absurd h (by omega)⟩, rfl⟩
    · obtain rfl : n = k := by omega
      go_wp2_with fail
      go_ret
      exact ⟨⟨_, rfl, fun _ => ⟨by have := HX.out.2; omega, fun i hi => ⟨by have := (HX.out.1 i hi).1; omega, by have := (HX.out.1 i hi).2.1; omega, fun p hp => ⟨by have := ((HX.out.1 i hi).2.2 p hp).1; omega, by have := ((HX.out.1 i hi).2.2 p hp).2; omega⟩⟩⟩⟩, rfl⟩
end Go.Proofs.Ytgnccfofhcbjjaa.lk
