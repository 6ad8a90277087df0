/-
  exportFilesFit over this seat's program.
  Conditions: the files are readable.
-/
import Derived.Test.YtknmcbhcbomjmaaPc
import Derived.Test.YtknmcbhcbomjmaaWy
namespace Go.Proofs.Ytknmcbhcbomjmaa.xs
open Go.ChangeShapes Go.WideShapes Go.ChangeAt Go.RowKit
open kit

def FitBool (w : World) (n : Nat) (fs : List EF) (e : Ending) (w' : World) : Prop :=
  (∃ b, e = .returned (.bool b) ∧ (b = true → Fit n fs)) ∧ w = w'
def Lo (n : Nat) (sr : List Int) (j : Nat) : Prop := ∀ i, i < j → sr.getD i 0 < (n : Int)
def Z1 (n : Nat) (fs : List EF) (t3 t4 t5 t6 : Value) : Prop := ∃ k x y p : Nat, k ≤ n ∧ x ≤ 1048576 ∧ y ≤ 4096 ∧ p ≤ 64 ∧ t6 = .int .i64 (k : Int) ∧ t3 = .int .i64 (x : Int) ∧ t4 = .int .i64 (y : Int) ∧ t5 = .int .i64 (p : Int) ∧
  Hid (y = nm fs k ∧ p = pr (dF fs) k ∧ ∀ i, i < k → Kf fs i ≤ 262144 ∧ Lo n (fs.getD i default).sr (Kf fs i))
def Z2 (B e : Nat) (t3 t7 : Value) : Prop := ∃ j y : Nat, j ≤ e ∧ B ≤ y ∧ y ≤ B + j * 1048592 ∧ t7 = .int .i64 (j : Int) ∧ t3 = .int .i64 (y : Int)
def Z3 (n : Nat) (sr : List Int) (t8 t9 : Value) : Prop := ∃ j d : Nat, j ≤ sr.length ∧ d ≤ j ∧ t9 = .int .i64 (j : Int) ∧ t8 = .int .i64 (d : Int) ∧ Hid (d = (vsf sr j).length ∧ Lo n sr j)

set_option maxRecDepth 100000 in
set_option maxHeartbeats 8000000 in
theorem fits (w : World) (a : Option Addr) (n c : Nat) (fs : List EF) (h : Fs w a n fs) (hn : n ≤ 1048576) (hs : ∀ i, i < n → Sml (fs.getD i default)) :
    Calls Try.prog 6 #[.slice a n c] w (FitBool w n fs) := by
  have HF := Lib.hid h
  have HS := Lib.hid hs
  clear h hs
  by_cases hn2 : n ≤ 256
  · have W1 : IntKind.i32.wrap (n : Int) = (n : Int) := IntWalk.i32_in _ (by omega)
    go_enter Try.func6, Try.ntmps6
    go_wp2_with fail
    go_loop [3, 4, 5, 6] (fun t3 t4 t5 t6 => Z1 n fs t3 t4 t5 t6) (fun _ _ _ t6 => n - (intOf t6).toNat)
    case atStart => exact ⟨0, n * 80, 0, 1, by omega, by omega, by omega, by omega, rfl, by go_num, rfl, rfl, Lib.hid ⟨rfl, rfl, fun i hi => absurd hi (by omega)⟩⟩
    case round =>
      obtain ⟨k, x, y, p, hk, hx, hy, hp, rfl, rfl, rfl, rfl, HX⟩ := hrel
      by_cases hlt : k < n
      · obtain ⟨b, off, rfl, _, _, c1, c2, hr1, hr2⟩ := HF.out.at_ hlt
        obtain ⟨he, hk2, hz⟩ := HS.out k hlt
        have HR1 := Lib.hid hr1
        have HR2 := Lib.hid hr2
        have HZ := Lib.hid hz
        have HN : Hid (∀ y2 p2 : Nat, y2 = y + (exF fs k).length → p2 = p * max 1 (dF fs k) → Kf fs k ≤ 262144 → Lo n (fs.getD k default).sr (Kf fs k) → y2 = nm fs (k + 1) ∧ p2 = pr (dF fs) (k + 1) ∧ ∀ i, i < k + 1 → Kf fs i ≤ 262144 ∧ Lo n (fs.getD i default).sr (Kf fs i)) := Lib.hid (fun y2 p2 q1 q2 q3 q4 => by
          obtain ⟨u1, u2, u3⟩ := HX.out
          refine ⟨by rw [nm_succ, q1, u1], by rw [pr_succ, q2, u2], fun i hi => ?_⟩
          by_cases e : i = k
          · rw [e]; exact ⟨q3, q4⟩
          · exact u3 i (by omega))
        unfold exF Kf dF at HN
        clear hr1 hr2 hz HX
        generalize fs.getD k default = f at *
        obtain ⟨ek, ex, sr, ia, ic, ia2, ic2⟩ := f
        dsimp only at c1 c2 he hk2 HR1 HR2 HZ HN
        go_wp2_with fail
        go_loop [3, 7] (fun t3 t7 => Z2 (x + sr.length * 4) ex.length t3 t7) (fun _ t7 => ex.length - (intOf t7).toNat)
        case atStart => exact ⟨0, x + sr.length * 4, by omega, by omega, by omega, rfl, by go_num⟩
        case round =>
          obtain ⟨j, z, hj, hz1, hz2, rfl, rfl⟩ := hrel
          by_cases hlt2 : j < ex.length
          · obtain ⟨b2, off2, rfl, _, x0⟩ := HR1.out.at_ ByteArray.empty hlt2
            have hms := HZ.out j hlt2
            generalize ex.getD j ByteArray.empty = s at *
            go_wp2_with fail
            go_round
            case rel => exact ⟨j + 1, z + (16 + s.size), by omega, by omega, by omega, by go_num, by go_num⟩
            case measure => simp [intOf]; omega
          · obtain rfl : j = ex.length := by omega
            by_cases h1 : z ≤ 1048576
            · by_cases h2 : y + ex.length ≤ 4096
              · go_wp2_with fail
                go_loop [8, 9] (fun t8 t9 => Z3 n sr t8 t9) (fun _ t9 => sr.length - (intOf t9).toNat)
                case atStart => exact ⟨0, 0, by omega, by omega, rfl, rfl, Lib.hid ⟨rfl, fun i hi => absurd hi (by omega)⟩⟩
                case round =>
                  obtain ⟨i, d, hi, hd, rfl, rfl, HD⟩ := hrel
                  by_cases hlt3 : i < sr.length
                  · obtain ⟨b3, off3, rfl, _, x1⟩ := HR2.out.at_ 0 hlt3
                    have HL : Hid (sr.getD i 0 < (n : Int) → Lo n sr (i + 1)) := Lib.hid (fun q m hm => by
                      by_cases e : m = i
                      · rw [e]; exact q
                      · exact HD.out.2 m (by omega))
                    have HV1 : Hid (0 ≤ sr.getD i 0 → d + 1 = (vsf sr (i + 1)).length) := Lib.hid (fun q => by rw [vsf_yes q, HD.out.1])
                    have HV2 : Hid (¬ 0 ≤ sr.getD i 0 → d = (vsf sr (i + 1)).length) := Lib.hid (fun q => by rw [vsf_no q, HD.out.1])
                    clear HD
                    generalize sr.getD i 0 = t at *
                    by_cases h3 : t < (n : Int)
                    · have HL2 := Lib.hid (HL.out h3)
                      clear HL
                      by_cases h4 : 0 ≤ t
                      · have HV := Lib.hid (HV1.out h4)
                        clear HV1 HV2
                        go_wp2_with fail
                        go_round
                        case rel => exact ⟨i + 1, d + 1, by omega, by omega, by go_num, by go_num, Lib.hid ⟨HV.out, HL2.out⟩⟩
                        case measure => simp [intOf]; omega
                      · have HV := Lib.hid (HV2.out h4)
                        clear HV1 HV2
                        go_wp2_with fail
                        go_round
                        case rel => exact ⟨i + 1, d, by omega, by omega, by go_num, by go_num, Lib.hid ⟨HV.out, HL2.out⟩⟩
                        case measure => simp [intOf]; omega
                    · clear HL HV1 HV2
                      go_wp2_with fail
                      go_ret
                      exact ⟨⟨false, rfl, fun h => by cases h⟩, rfl⟩
                  · obtain rfl : i = sr.length := by omega
                    have HE : Hid (∀ p2 : Nat, p2 = p * max 1 d → y + ex.length = nm fs (k + 1) ∧ p2 = pr (dF fs) (k + 1) ∧ ∀ i, i < k + 1 → Kf fs i ≤ 262144 ∧ Lo n (fs.getD i default).sr (Kf fs i)) := Lib.hid (fun p2 q => HN.out _ p2 rfl (by rw [q, HD.out.1]) (by omega) HD.out.2)
                    clear HN HD
                    by_cases h5 : 1 < d
                    · obtain ⟨q, hq⟩ : ∃ q, q = p * d := ⟨_, rfl⟩
                      have hq2 : q ≤ 64 * 1048576 := by rw [hq]; exact Nat.mul_le_mul hp (by omega)
                      have hq3 : (p : Int) * (d : Int) = (q : Int) := by rw [hq]; simp
                      have HE2 := Lib.hid (HE.out q (by rw [hq, Nat.max_eq_right (by omega)]))
                      clear HE hq
                      by_cases h6 : q ≤ 64
                      · go_wp2_with fail
                        go_round
                        case rel => exact ⟨k + 1, z, y + ex.length, q, by omega, by omega, by omega, by omega, by go_num, rfl, by go_num, by go_num, HE2⟩
                        case measure => simp [intOf]; omega
                      · go_wp2_with fail
                        go_ret
                        exact ⟨⟨false, rfl, fun h => by cases h⟩, rfl⟩
                    · have HE2 := Lib.hid (HE.out p (by rw [Nat.max_eq_left (by omega), Nat.mul_one]))
                      clear HE
                      go_wp2_with fail
                      go_round
                      case rel => exact ⟨k + 1, z, y + ex.length, p, by omega, by omega, by omega, by omega, by go_num, rfl, by go_num, by go_num, HE2⟩
                      case measure => simp [intOf]; omega
              · clear HN
                go_wp2_with fail
                go_ret
                exact ⟨⟨false, rfl, fun h => by cases h⟩, rfl⟩
            · clear HN
              go_wp2_with fail
              go_ret
              exact ⟨⟨false, rfl, fun h => by cases h⟩, rfl⟩
      · obtain rfl : n = k := by omega
        go_wp2_with fail
        go_ret
        exact ⟨⟨true, rfl, fun _ => ⟨hn2, fun i hi => (HX.out.2.2 i hi).1, fun i hi => (HX.out.2.2 i hi).2, by rw [← HX.out.1]; exact hy, by rw [← HX.out.2.1]; exact hp⟩⟩, rfl⟩
  · go_enter Try.func6, Try.ntmps6
    go_wp2_with fail
    go_ret
    exact ⟨⟨false, rfl, fun h => by cases h⟩, rfl⟩
end Go.Proofs.Ytknmcbhcbomjmaa.xs
