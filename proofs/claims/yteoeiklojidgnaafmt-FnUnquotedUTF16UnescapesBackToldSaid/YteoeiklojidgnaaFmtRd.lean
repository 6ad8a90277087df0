/-
  The reader's helpers over this seat's program: a string by its bytes, a hexadecimal digit, a hexadecimal number, the decoding of UTF-8.
  Conditions: what is read was laid by a token.
-/
import Derived.Test.YteoeiklojidgnaaFmtUb
import Derived.Laws.BytesArg
import Derived.LoopTactic
namespace Go.Proofs.YteoeiklojidgnaaFmt.ur
open Go.ChangeShapes Go.WideShapes Go.ChangeAt Go.RowKit
open kit uq

/-- the string S has the bytes B -/
def Str (S : ByteArray) (B : List Int) : Prop := S.size = B.length ∧ ∀ (i : Nat) b, B[i]? = some b → ∀ W, (Instr.index 9 (.string S) (.int .i64 (i : Int))).run Tryf.prog W = .ok (.int .u8 b) W
theorem str_of (B : List Int) (h : ∀ b ∈ B, 0 ≤ b ∧ b < 256) : Str (strOfNums B) B := by
  refine ⟨strOfNums_size B, fun i b hb W => ?_⟩
  obtain ⟨hl, e⟩ := List.getElem?_eq_some_iff.1 hb
  have hr := h b (e ▸ List.getElem_mem hl)
  have hs := strOfNums_size B
  rw [run_index_string (P := Tryf.prog) W 9 _ _ _ Tryf.underlying9]
  have hi : 0 ≤ (i : Int) ∧ (i : Int) < ((strOfNums B).size : Int) := by omega
  rw [dif_pos hi]
  have e2 : (((strOfNums B)[(i : Int).toNat]'(by omega)).toNat : Int) = b := by
    have e3 : (strOfNums B)[(i : Int).toNat]'(by omega) = UInt8.ofNat b.toNat := by
      show ((strOfNums B).data)[i]'(by show i < (strOfNums B).size; omega) = _
      simp [strOfNums, e]
    rw [e3]
    simp [UInt8.toNat_ofNat]
    omega
  rw [e2]

theorem hexVal (v : Int) (h0 : 0 ≤ v) (h1 : v < 16) (w : World) : Calls Tryf.prog 16 #[.int .u8 (hexd v)] w fun e w' => e = .returned (.tuple #[.int .u32 v, .bool true]) ∧ w = w' := by
  obtain ⟨r0, r1, r2, r3⟩ := hexd_range v h0 h1
  by_cases hv : v < 10
  · rw [r2 hv]
    have i1 : (48 : Int) ≤ 48 + v := by omega
    have i2 : 48 + v ≤ 57 := by omega
    have i3 : 48 + v - 48 = v := by omega
    clear r0 r1 r2 r3
    go_enter Tryf.func16, Tryf.ntmps16
    go_wp2
    go_ret2
    exact ⟨rfl, rfl⟩
  · rw [r3 (by omega)]
    have i1 : (48 : Int) ≤ 55 + v := by omega
    have i2 : ¬ 55 + v ≤ 57 := by omega
    have i4 : ¬ 97 ≤ 55 + v := by omega
    have i5 : 65 ≤ 55 + v := by omega
    have i6 : 55 + v ≤ 70 := by omega
    have i3 : 55 + v - 65 + 10 = v := by omega
    clear r0 r1 r2 r3
    go_enter Tryf.func16, Tryf.ntmps16
    go_wp2
    go_ret2
    exact ⟨by first | rfl | simp [i3], rfl⟩
theorem isCont (b : Int) (h0 : 128 ≤ b) (h1 : b ≤ 191) (w : World) : Calls Tryf.prog 17 #[.int .u8 b] w fun e w' => e = .returned (.bool true) ∧ w = w' := by
  go_enter Tryf.func17, Tryf.ntmps17
  go_wp2
  go_ret
  exact ⟨rfl, rfl⟩

/-- the number of k digits -/
def hv (d : Nat → Int) : Nat → Int
  | 0 => 0
  | k + 1 => hv d k * 16 + d k
theorem hv_le (d : Nat → Int) (h : ∀ j, 0 ≤ d j ∧ d j < 16) (k : Nat) : 0 ≤ hv d k ∧ (k ≤ 1 → hv d k < 16) ∧ (k ≤ 2 → hv d k < 256) ∧ (k ≤ 3 → hv d k < 4096) ∧ (k ≤ 4 → hv d k < 65536) := by
  have h0 := h 0
  have h1 := h 1
  have h2 := h 2
  have h3 := h 3
  match k with
  | 0 => simp [hv]
  | 1 => simp [hv]; omega
  | 2 => simp [hv]; omega
  | 3 => simp [hv]; omega
  | 4 => simp [hv]; omega
  | k + 5 =>
    refine ⟨?_, by omega, by omega, by omega, by omega⟩
    have : ∀ m, 0 ≤ hv d m := fun m => by
      induction m with
      | zero => simp [hv]
      | succ m ih => have := h m; simp only [hv]; omega
    exact this _
def HN (d : Nat → Int) (k : Nat) (w : World) (t8 t9 : Value) (W : World) : Prop := W = w ∧ ∃ j : Nat, j ≤ k ∧ t8 = .int .u32 (hv d j) ∧ t9 = .int .i64 (j : Int)
set_option maxHeartbeats 4000000 in
theorem hexN (S : ByteArray) (B : List Int) (hs : Str S B) (i k : Nat) (d : Nat → Int) (hd : ∀ j, 0 ≤ d j ∧ d j < 16) (hb : ∀ j, j < k → B[i + j]? = some (hexd (d j))) (hk : k ≤ 4) (hi : i + k ≤ B.length) (hl : B.length ≤ 1099511627776) (w : World) :
    Calls Tryf.prog 13 #[.string S, .int .i64 (i : Int), .int .i64 (k : Int)] w fun e w' => e = .returned (.tuple #[.int .u32 (hv d k), .bool true]) ∧ w = w' := by
  have hsz : S.size = B.length := hs.1
  have HS := Lib.hid hs.2
  have HB := Lib.hid hb
  have HD := Lib.hid hd
  clear hs hb hd
  generalize B.length = n at *
  have i1 : (i : Int) + (k : Int) ≤ (n : Int) := by omega
  go_enter Tryf.func13, Tryf.ntmps13
  go_wp2
  go_loopw [8, 9] (fun t8 t9 W => HN d k w t8 t9 W) (fun _ t _ => k - (intOf t).toNat)
  case atStart => exact ⟨rfl, 0, Nat.zero_le _, rfl, rfl⟩
  case round =>
    obtain ⟨rfl, j, hj, rfl, rfl⟩ := hrel
    by_cases hlt : j < k
    · have hx := HS.out (i + j) _ (HB.out j hlt)
      have hdj := HD.out j
      have hle := (hv_le d HD.out j).2.2.2.1 (by omega)
      have hle0 := (hv_le d HD.out j).1
      have HNX : Hid (HN d k wr (.int .u32 (hv d j * 16 + d j)) (.int .i64 ((j : Int) + 1)) wr) := Lib.hid ⟨rfl, j + 1, hlt, rfl, rfl⟩
      have HV := Lib.hid (hexVal (d j) hdj.1 hdj.2 wr)
      generalize hexd (d j) = y at *
      generalize d j = x at *
      generalize hv d j = z at *
      have i2 : (j : Int) < (k : Int) := by omega
      have i3 : (i : Int) + (j : Int) < (n : Int) := by omega
      rw [show ((i + j : Nat) : Int) = (i : Int) + (j : Int) from rfl] at hx
      go_wp2_with fail
      refine HV.out.mono ?_
      rintro e w' ⟨rfl, rfl⟩
      dsimp only
      go_wp2_with fail
      go_roundw
      case rel => exact HNX.out
      case measure => simp [intOf]; omega
    · obtain rfl : j = k := by omega
      go_wp2_with fail
      go_ret2
      exact ⟨rfl, rfl⟩
end Go.Proofs.YteoeiklojidgnaaFmt.ur
