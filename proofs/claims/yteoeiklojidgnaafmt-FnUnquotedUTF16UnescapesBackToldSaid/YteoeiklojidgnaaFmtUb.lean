/-
  The bit arithmetic of the reader and of the writer, in plain numbers.
  Conditions: none; no program in sight.
-/
import Derived.Test.YteoeiklojidgnaaFmtTok
import Derived.Laws.BitsAllLaws
import Derived.Laws.BitsLemmas
namespace Go.Proofs.YteoeiklojidgnaaFmt.uq
open Go.RowKit

theorem u8and (x : Int) (m : Nat) (h0 : 0 ≤ x) (h1 : x < 256) (hm : m < 256) : bits .and .u8 x (m : Int) = ((x.toNat &&& m : Nat) : Int) := by
  have e := u8_and_nat x.toNat m (by omega) hm
  rwa [Int.toNat_of_nonneg h0] at e
theorem u8and31 (x : Int) (h0 : 0 ≤ x) (h1 : x < 256) : bits .and .u8 x 31 = x % 32 := by
  have e := u8and x 31 h0 h1 (by omega)
  rw [nat_mask5] at e
  rw [show (31 : Int) = ((31 : Nat) : Int) from rfl, e]; omega
theorem u8and63 (x : Int) (h0 : 0 ≤ x) (h1 : x < 256) : bits .and .u8 x 63 = x % 64 := by
  have e := u8and x 63 h0 h1 (by omega)
  rw [nat_mask6] at e
  rw [show (63 : Int) = ((63 : Nat) : Int) from rfl, e]; omega
theorem u8and15 (x : Int) (h0 : 0 ≤ x) (h1 : x < 256) : bits .and .u8 x 15 = x % 16 := by
  have e := u8and x 15 h0 h1 (by omega)
  rw [nat_mask4] at e
  rw [show (15 : Int) = ((15 : Nat) : Int) from rfl, e]; omega
theorem u8and7 (x : Int) (h0 : 0 ≤ x) (h1 : x < 256) : bits .and .u8 x 7 = x % 8 := by
  have e := u8and x 7 h0 h1 (by omega)
  rw [nat_mask3] at e
  rw [show (7 : Int) = ((7 : Nat) : Int) from rfl, e]; omega
theorem u16and15 (x : Int) (h0 : 0 ≤ x) (h1 : x < 65536) : bits .and .u16 x 15 = x % 16 := by
  have e := u16_and_nat x.toNat 15 (by omega) (by omega)
  rw [nat_mask4, Int.toNat_of_nonneg h0] at e
  rw [show (15 : Int) = ((15 : Nat) : Int) from rfl, e]; omega
/-- two bytes -/
theorem lead2 (c : Int) (h0 : 128 ≤ c) (h1 : c < 2048) : bits .and .u8 (192 + c / 64) 31 = c / 64 := by rw [u8and31 _ (by omega) (by omega)]; omega
theorem lead3 (c : Int) (h0 : 2048 ≤ c) (h1 : c < 65536) : bits .and .u8 (224 + c / 4096) 15 = c / 4096 := by rw [u8and15 _ (by omega) (by omega)]; omega
theorem lead4 (c : Int) (h0 : 65536 ≤ c) (h1 : c < 1114112) : bits .and .u8 (240 + c / 262144) 7 = c / 262144 := by rw [u8and7 _ (by omega) (by omega)]; omega
theorem tail6 (y : Int) (h0 : 0 ≤ y) (h1 : y < 64) : bits .and .u8 (128 + y) 63 = y := by rw [u8and63 _ (by omega) (by omega)]; omega
theorem join2 (c : Int) (h0 : 0 ≤ c) (h1 : c < 2048) : bits .or .i32 (c / 64 * 64) (c % 64) = c := by rw [i32_or6 _ _ (by omega) (by omega) (by omega) (by omega) (by omega)]; omega
theorem join3a (c : Int) (h0 : 0 ≤ c) (h1 : c < 65536) : bits .or .i32 (c / 4096 * 4096) (c / 64 % 64 * 64) = c / 64 * 64 := by rw [i32_or12 _ _ (by omega) (by omega) (by omega) (by omega) (by omega)]; omega
theorem join6 (c : Int) (h0 : 0 ≤ c) (h1 : c < 2000000) : bits .or .i32 (c / 64 * 64) (c % 64) = c := by rw [i32_or6 _ _ (by omega) (by omega) (by omega) (by omega) (by omega)]; omega
theorem join4a (c : Int) (h0 : 0 ≤ c) (h1 : c < 2000000) : bits .or .i32 (c / 262144 * 262144) (c / 4096 % 64 * 4096) = c / 4096 * 4096 := by rw [i32_or18 _ _ (by omega) (by omega) (by omega) (by omega) (by omega)]; omega
theorem join4b (c : Int) (h0 : 0 ≤ c) (h1 : c < 2000000) : bits .or .i32 (c / 4096 * 4096) (c / 64 % 64 * 64) = c / 64 * 64 := by rw [i32_or12 _ _ (by omega) (by omega) (by omega) (by omega) (by omega)]; omega
/-- the writer's rune of a pair, and the units read back from it -/
theorem pairR {c d : Int} (h0 : 55296 ≤ c) (h1 : c < 56320) (h2 : 56320 ≤ d) (h3 : d < 57344) : 65536 ≤ c * 1024 + d - 56613888 ∧ c * 1024 + d - 56613888 < 1114112 ∧ 55296 + (c * 1024 + d - 56613888 - 65536) / 1024 = c ∧ 56320 + (c * 1024 + d - 56613888 - 65536) % 1024 = d := by omega
theorem hexd_range (v : Int) (h0 : 0 ≤ v) (h1 : v < 16) : 48 ≤ hexd v ∧ hexd v ≤ 70 ∧ (v < 10 → hexd v = 48 + v) ∧ (10 ≤ v → hexd v = 55 + v) := by
  unfold hexd
  split <;> omega
end Go.Proofs.YteoeiklojidgnaaFmt.uq
