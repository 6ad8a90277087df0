/-
  jsBytes over this seat's program.
  Conditions: the files are readable.
-/
import Derived.Test.YtkogmgonceneeaaCf
namespace Go.Proofs.Ytkogmgonceneeaa.css
open Go.ChangeShapes Go.WideShapes Go.ChangeAt Go.RowKit
open kit dfs

def Lens8 (F : Ct) (x k : Nat) : Prop := ∀ i, i < k → np F i * 8 ≤ x ∧ ∀ p, p < np F i → (imps F i p).length * 8 ≤ x
theorem Lens8.mono {F : Ct} {x y k : Nat} (h : Lens8 F x k) (hx : x ≤ y) : Lens8 F y k := fun i hi => ⟨by have := (h i hi).1; omega, fun p hp => by have := (h i hi).2 p hp; omega⟩
theorem Lens8.step {F : Ct} {x k : Nat} (h : Lens8 F x k) (h1 : np F k * 8 ≤ x) (h2 : ∀ p, p < np F k → (imps F k p).length * 8 ≤ x) : Lens8 F x (k + 1) := fun i hi => by
  by_cases e : i = k
  · rw [e]; exact ⟨h1, h2⟩
  · exact h i (by omega)
/-- the number of dependencies of the first j parts of file k; the number of parts and dependencies of the first k files -/
def dsum (F : Ct) (k : Nat) : Nat → Nat
  | 0 => 0
  | j + 1 => dsum F k j + (imps F k j).length
def tot (F : Ct) : Nat → Nat
  | 0 => 0
  | k + 1 => tot F k + np F k + dsum F k (np F k)
def SizeI (w : World) (n : Nat) (F : Ct) (e : Ending) (w' : World) : Prop := (∃ x : Int, e = .returned (.int .i64 x) ∧ (x ≤ 1048576 → n ≤ 131072 ∧ Lens F 131072 n ∧ tot F n ≤ 131072)) ∧ w = w'
def A5 (n : Nat) (F : Ct) (t3 t4 : Value) : Prop := ∃ (k x : Nat), k ≤ n ∧ t4 = .int .i64 (k : Int) ∧ t3 = .int .i64 (x : Int) ∧ x ≤ 1048576 ∧ Hid (Lens8 F x k ∧ tot F k * 8 ≤ x)
def B5 (F : Ct) (k : Nat) (t3 t5 : Value) : Prop := ∃ (j x : Nat), j ≤ np F k ∧ t5 = .int .i64 (j : Int) ∧ t3 = .int .i64 (x : Int) ∧ x ≤ 1048576 ∧ Hid ((Lens8 F x k ∧ (tot F k + np F k + dsum F k j) * 8 ≤ x) ∧ np F k * 8 ≤ x ∧ ∀ p, p < j → (imps F k p).length * 8 ≤ x)

set_option maxRecDepth 100000 in
set_option maxHeartbeats 8000000 in
theorem size (w : World) (a : Option Addr) (n c : Nat) (F : Ct) (h : FilesC w a n F) (hn : n ≤ 1048576) (hl : Lens F 1048576 n) :
    Calls Try.prog 5 #[.slice a n c] w (SizeI w n F) := by
  have HF := Lib.hid h
  have HL := Lib.hid hl
  clear h hl
  by_cases hn2 : n ≤ 65536
  · go_enter Try.func5, Try.ntmps5
    go_wp2_with fail
    go_loop [3, 4] (fun t3 t4 => A5 n F t3 t4) (fun _ t4 => n - (intOf t4).toNat)
    case atStart => exact ⟨0, 16 * n, by omega, rfl, by go_num, by omega, Lib.hid ⟨fun i hi => absurd hi (by omega), by simp [tot]⟩⟩
    case round =>
      obtain ⟨k, x, hk, rfl, rfl, hx, HX⟩ := hrel
      by_cases hlt : k < n
      · obtain ⟨b, off, pa, pc, rfl, _, c0, _, _, _, hpc, hpm, _, hP⟩ := HF.out.at_ hlt
        have HP := Lib.hid hP
        have k0 : (k : Int) < (n : Int) := by omega
        have hnp : np F k ≤ 1048576 := (HL.out k hlt).1
        have HLk := Lib.hid (HL.out k hlt).2
        clear hP
        generalize hmk : np F k = m at *
        have HMK := Lib.hid hmk
        clear hmk
        go_wp2_with fail
        · rename_i hbig
          go_ret
          exact ⟨⟨_, rfl, fun h => absurd h (by omega)⟩, rfl⟩
        · have hx2 : x + 8 * m ≤ 1048576 := by omega
          have HB0 : Hid (B5 F k (.int .i64 ((x : Int) + 8 * (m : Int))) (.int .i64 0)) := Lib.hid ⟨0, x + 8 * m, Nat.zero_le _, rfl, by go_num, hx2, Lib.hid ⟨⟨HX.out.1.mono (by omega), by have := HX.out.2; simp only [dsum]; rw [HMK.out]; omega⟩, by rw [HMK.out]; omega, fun p hp => absurd hp (by omega)⟩⟩
          clear HX
          go_loop [3, 5] (fun t3 t5 => B5 F k t3 t5) (fun _ t5 => m - (intOf t5).toNat)
          case atStart => exact HB0.out
          case round =>
            obtain ⟨j, y, hj, rfl, rfl, hy, HJ⟩ := hrel
            clear HB0
            rw [HMK.out] at hj
            by_cases hlt2 : j < m
            · obtain ⟨b2, off2, da, dc, rfl, _, c2, hd1, hd2, _, _⟩ := part_at HP.out (p := j) (by rw [HMK.out]; exact hlt2)
              have j0 : (j : Int) < (m : Int) := by omega
              have hd3 : (imps F k j).length ≤ 1048576 := HLk.out j hlt2
              have HJ2 : Hid ((Lens8 F (y + 8 * (imps F k j).length) k ∧ (tot F k + np F k + dsum F k (j + 1)) * 8 ≤ y + 8 * (imps F k j).length) ∧ np F k * 8 ≤ y + 8 * (imps F k j).length ∧ ∀ p, p < j + 1 → (imps F k p).length * 8 ≤ y + 8 * (imps F k j).length) := Lib.hid ⟨⟨HJ.out.1.1.mono (by omega), by have := HJ.out.1.2; simp only [dsum]; omega⟩, by have := HJ.out.2.1; omega, fun p hp => by
                by_cases e : p = j
                · rw [e]; omega
                · have := HJ.out.2.2 p (by omega); omega⟩
              clear HJ
              generalize (imps F k j).length = l at *
              go_wp2_with fail
              · go_ret
                exact ⟨⟨_, rfl, fun h => absurd h (by omega)⟩, rfl⟩
              · go_round
                case rel => exact ⟨j + 1, y + 8 * l, by rw [HMK.out]; omega, by go_num, by go_num, by omega, HJ2⟩
                case measure => simp [intOf]; omega
            · obtain rfl : j = m := by omega
              have HN2 : Hid (Lens8 F y (k + 1) ∧ tot F (k + 1) * 8 ≤ y) := Lib.hid ⟨HJ.out.1.1.step HJ.out.2.1 (by rw [HMK.out]; exact HJ.out.2.2), by have := HJ.out.1.2; simp only [tot]; rw [HMK.out] at this ⊢; exact this⟩
              clear HJ
              go_wp2_with fail
              go_round
              case rel => exact ⟨k + 1, y, by omega, by go_num, rfl, hy, HN2⟩
              case measure => simp [intOf]; omega
      · obtain rfl : n = k := by omega
        go_wp2_with fail
        go_ret
        exact ⟨⟨_, rfl, fun _ => ⟨by omega, fun i hi => ⟨by have := (HX.out.1 i hi).1; omega, fun p hp => by have := (HX.out.1 i hi).2 p hp; omega⟩, by have := HX.out.2; omega⟩⟩, rfl⟩
  · go_enter Try.func5, Try.ntmps5
    go_wp2_with fail
    go_ret
    exact ⟨⟨_, rfl, fun h => absurd h (by omega)⟩, rfl⟩

end Go.Proofs.Ytkogmgonceneeaa.css
