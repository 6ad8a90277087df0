/-
  Contracts for FnPrintAgreesWithPrintBytes over this seat's program: the guards, the printer's maker, print and printBytes from outside, two printers side by side.
  Conditions: at most 2^20 bytes in all where the script runs.
-/
import Derived.Test.YtdpljbhbnlcoaaaAg
import Derived.LoopTactic
import Derived.Outline
namespace Go.Proofs.Ytdpljbhbnlcoaaa.ag
open Go.ChangeShapes Go.WideShapes Go.ChangeAt Go.RowKit
open kit pr

/-- a slice of strings that came in -/
def Strs (w : World) (A : Option Addr) (n : Nat) (ss : List ByteArray) : Prop :=
  (0 < n → ∃ b off, A = some ⟨b, off, none⟩ ∧ b < w.heap.size ∧ ∀ i, i < n → w.cell? ⟨b, off + i, none⟩ = some (.string (ss.getD i ByteArray.empty))) ∧ ∀ i, (ss.getD i ByteArray.empty).size ≤ maxLen
def Bools (w : World) (A : Option Addr) (n : Nat) (bs : List Bool) : Prop :=
  0 < n → ∃ b off, A = some ⟨b, off, none⟩ ∧ b < w.heap.size ∧ ∀ i, i < n → w.cell? ⟨b, off + i, none⟩ = some (.bool (bs.getD i false))
theorem Strs.below {w w2 : World} {A : Option Addr} {n : Nat} {ss : List ByteArray} (h : Strs w A n ss) (hb : Below w.heap.size w w2) : Strs w2 A n ss :=
  ⟨fun h0 => by
    obtain ⟨b, off, e, hlt, hc⟩ := h.1 h0
    exact ⟨b, off, e, Nat.lt_of_lt_of_le hlt hb.size, fun i hi => (hb.cell (p := ⟨b, off + i, none⟩) hlt).trans (hc i hi)⟩, h.2⟩
theorem Bools.below {w w2 : World} {A : Option Addr} {n : Nat} {bs : List Bool} (h : Bools w A n bs) (hb : Below w.heap.size w w2) : Bools w2 A n bs :=
  fun h0 => by
    obtain ⟨b, off, e, hlt, hc⟩ := h h0
    exact ⟨b, off, e, Nat.lt_of_lt_of_le hlt hb.size, fun i hi => (hb.cell (p := ⟨b, off + i, none⟩) hlt).trans (hc i hi)⟩
/-- how many bytes the first k strings hold -/
def sum (ss : List ByteArray) : Nat → Nat
  | 0 => 0
  | k + 1 => sum ss k + (ss.getD k ByteArray.empty).size
theorem sum_mono (ss : List ByteArray) {j k : Nat} (h : j ≤ k) : sum ss j ≤ sum ss k := by
  induction k with
  | zero => obtain rfl : j = 0 := by omega
            exact Nat.le_refl _
  | succ k ih =>
    rcases Nat.lt_or_ge j (k + 1) with hh | hh
    · have := ih (by omega); simp only [sum]; omega
    · obtain rfl : j = k + 1 := by omega
      exact Nat.le_refl _
/-- the first k strings, one behind the other -/
def cat (ss : List ByteArray) : Nat → List Int
  | 0 => []
  | k + 1 => cat ss k ++ bytesOf (ss.getD k ByteArray.empty)
theorem cat_length (ss : List ByteArray) (k : Nat) : (cat ss k).length = sum ss k := by
  induction k with
  | zero => rfl
  | succ k ih => simp only [cat, sum, List.length_append, ih, bytesOf_length]

def Sized (w : World) (n : Nat) (ss : List ByteArray) (e : Ending) (w' : World) : Prop := (∃ b, e = .returned (.bool b) ∧ (b = true → ∀ k, k < n → (ss.getD k ByteArray.empty).size ≤ 1048576)) ∧ w = w'
set_option maxRecDepth 100000 in
set_option maxHeartbeats 4000000 in
theorem bytes5 (a0 : Option Addr) (n0 c0 : Nat) (a1 : Option Addr) (n1 c1 : Nat) (ss : List ByteArray) (a2 : Option Addr) (n2 c2 : Nat) (w : World) (h1 : Strs w a1 n1 ss) (m1 : n1 ≤ maxLen) :
    Calls Try.prog 5 #[.slice a0 n0 c0, .slice a1 n1 c1, .slice a2 n2 c2] w (Sized w n1 ss) := by
  have H1 := Lib.hid h1
  unfold maxLen at m1
  clear h1
  by_cases x0 : 1048576 < n0
  · go_enter Try.func5, Try.ntmps5
    go_wp2_with fail
    go_ret
    exact ⟨⟨_, rfl, fun h => by cases h⟩, rfl⟩
  by_cases x1 : 1048576 < n1
  · go_enter Try.func5, Try.ntmps5
    go_wp2_with fail
    go_ret
    exact ⟨⟨_, rfl, fun h => by cases h⟩, rfl⟩
  by_cases x2 : 1048576 < n0 + n1
  · go_enter Try.func5, Try.ntmps5
    go_wp2_with fail
    go_ret
    exact ⟨⟨_, rfl, fun h => by cases h⟩, rfl⟩
  · go_enter Try.func5, Try.ntmps5
    go_wp2_with fail
    go_loop [7, 8] (fun t7 t8 => ∃ k z : Nat, k ≤ n1 ∧ z ≤ 1048576 ∧ t8 = .int .i64 (k : Int) ∧ t7 = .int .i64 (z : Int) ∧ Hid (∀ j, j < k → (ss.getD j ByteArray.empty).size ≤ 1048576)) (fun _ t8 => n1 - (intOf t8).toNat)
    case atStart => exact ⟨0, n0 + n1, by omega, by omega, rfl, by go_num, Lib.hid (fun j hj => absurd hj (by omega))⟩
    case round =>
      obtain ⟨k, z, hk, hz, rfl, rfl, HAL⟩ := hrel
      by_cases hkn : k < n1
      · have hki : (k : Int) < (n1 : Int) := by omega
        obtain ⟨b, off, rfl, hb, hc⟩ := H1.out.1 (by omega)
        have c1 := hc k hkn
        have hm := H1.out.2 k
        unfold maxLen at hm
        clear hc hb
        have HAL2 : Hid ((ss.getD k ByteArray.empty).size ≤ 1048576 → ∀ j, j < k + 1 → (ss.getD j ByteArray.empty).size ≤ 1048576) := Lib.hid (fun h j hj => by
          rcases Nat.lt_or_ge j k with hh | hh
          · exact HAL.out j hh
          · obtain rfl : j = k := by omega
            exact h)
        generalize ss.getD k ByteArray.empty = s at *
        by_cases y1 : 1048576 < s.size
        · go_wp2_with fail
          go_ret
          exact ⟨⟨_, rfl, fun h => by cases h⟩, rfl⟩
        by_cases y2 : 1048576 < z + s.size
        · go_wp2_with fail
          go_ret
          exact ⟨⟨_, rfl, fun h => by cases h⟩, rfl⟩
        · have HAL3 := Lib.hid (HAL2.out (by omega))
          go_wp2_with fail
          go_round
          case rel => exact ⟨k + 1, z + s.size, by omega, by omega, by go_num, by go_num, HAL3⟩
          case measure => simp [intOf]; omega
      · obtain rfl : n1 = k := by omega
        by_cases y1 : 1048576 < n2
        · go_wp2_with fail
          go_ret
          exact ⟨⟨_, rfl, fun h => by cases h⟩, rfl⟩
        by_cases y2 : 1048576 < z + n2
        · go_wp2_with fail
          go_ret
          exact ⟨⟨_, rfl, fun h => by cases h⟩, rfl⟩
        · go_wp2_with fail
          go_ret
          exact ⟨⟨_, rfl, fun _ => HAL.out⟩, rfl⟩

def TooBig (w : World) (x n : Nat) (ss : List ByteArray) (e : Ending) (w' : World) : Prop := (∃ b, e = .returned (.bool b) ∧ (b = false → x + 16 * n + sum ss n ≤ 1048576)) ∧ w = w'
set_option maxRecDepth 100000 in
set_option maxHeartbeats 4000000 in
theorem tooBig (x : Nat) (a1 : Option Addr) (n c1 : Nat) (ss : List ByteArray) (w : World) (h1 : Strs w a1 n ss) (hx : x ≤ 2097152) (m1 : n ≤ maxLen) (hsz : ∀ k, k < n → (ss.getD k ByteArray.empty).size ≤ 1048576) :
    Calls Try.prog 6 #[.int .i64 (x : Int), .slice a1 n c1] w (TooBig w x n ss) := by
  have H1 := Lib.hid h1
  have HZ := Lib.hid hsz
  unfold maxLen at m1
  clear h1 hsz
  by_cases x0 : 1048576 < x
  · go_enter Try.func6, Try.ntmps6
    go_wp2_with fail
    go_ret
    exact ⟨⟨_, rfl, fun h => by cases h⟩, rfl⟩
  by_cases x1 : 1048576 < n
  · go_enter Try.func6, Try.ntmps6
    go_wp2_with fail
    go_ret
    exact ⟨⟨_, rfl, fun h => by cases h⟩, rfl⟩
  by_cases x2 : 1048576 < x + 16 * n
  · go_enter Try.func6, Try.ntmps6
    go_wp2_with fail
    go_ret
    exact ⟨⟨_, rfl, fun h => by cases h⟩, rfl⟩
  · go_enter Try.func6, Try.ntmps6
    go_wp2_with fail
    go_loop [5, 7, 24] (fun t5 t7 t24 => ∃ k : Nat, k ≤ n ∧ x + 16 * n + sum ss k ≤ 1048576 ∧ t24 = .int .i64 (k : Int) ∧ t5 = .int .i64 ((x + 16 * n + sum ss k : Nat) : Int)) (fun _ _ t24 => n - (intOf t24).toNat)
    case atStart => exact ⟨0, by omega, by simp only [sum]; omega, rfl, by simp only [sum]; go_num⟩
    case round =>
      obtain ⟨k, hk, hs, rfl, rfl⟩ := hrel
      by_cases hkn : k < n
      · have hki : (k : Int) < (n : Int) := by omega
        obtain ⟨b, off, rfl, hb, hc⟩ := H1.out.1 (by omega)
        have c1 := hc k hkn
        have hm := HZ.out k hkn
        have hs2 : sum ss (k + 1) = sum ss k + (ss.getD k ByteArray.empty).size := rfl
        clear hc hb
        generalize ss.getD k ByteArray.empty = s at *
        have HS2 := Lib.hid hs2
        clear hs2
        obtain ⟨T, hT⟩ : ∃ T, T = x + 16 * n + sum ss k := ⟨_, rfl⟩
        rw [← hT]
        rw [← hT] at hs
        have HT := Lib.hid hT
        clear hT
        by_cases y1 : 1048576 < T + s.size
        · go_wp2_with fail
          go_ret
          exact ⟨⟨_, rfl, fun h => by cases h⟩, rfl⟩
        · have HRR : Hid (k + 1 ≤ n ∧ x + 16 * n + sum ss (k + 1) ≤ 1048576 ∧ T + s.size = x + 16 * n + sum ss (k + 1)) := Lib.hid (by
            have h1 := HS2.out
            have h2 := HT.out
            omega)
          go_wp2_with fail
          go_round
          case rel => exact ⟨k + 1, HRR.out.1, HRR.out.2.1, by go_num, by rw [← HRR.out.2.2]; go_num⟩
          case measure => simp [intOf]; omega
      · obtain rfl : n = k := by omega
        have HSS := Lib.hid hs
        clear hs
        generalize ((x + 16 * n + sum ss n : Nat) : Int) = V at *
        go_wp2_with fail
        go_ret
        exact ⟨⟨_, rfl, fun _ => HSS.out⟩, rfl⟩
end Go.Proofs.Ytdpljbhbnlcoaaa.ag
