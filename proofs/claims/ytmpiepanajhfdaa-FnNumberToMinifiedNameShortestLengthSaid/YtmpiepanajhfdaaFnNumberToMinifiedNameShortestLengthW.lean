/-
  The walk of FnNumberToMinifiedNameShortestLength: For 0 <= i < 2^31 the name's length is the least L with i < 54*(1 + 64 + ... + 64^(L-1)).
  Conditions: none beyond those of the given statement Rows.FnNumberToMinifiedNameShortestLengthSaid.
-/
import Derived.Test.YtmpiepanajhfdaaRows
import Derived.WalkKit
import Derived.ProofKit
import Derived.OpenShut
import Derived.ShutString
import Derived.Test.YtmpiepanajhfdaaDecode
namespace Go.Proofs.Ytmpiepanajhfdaa.fnNumberToMinifiedNameShortestLength
open Go.ChangeShapes Go.WideShapes Go.ChangeAt Go.RowKit
open Go.ChangeMaps (open_string shut_string)
set_option linter.unusedVariables false      -- a walk need not use every 'w<i>' (that an integer argument fits its kind)

open kit bld names decode
theorem mkmin (h t : ByteArray) (w : World) : Calls Try.prog 9 #[.string h, .string t] w fun e w' => e = .returned (.agg #[.string h, .string t]) ∧ Kept w w' := by
  go_enter Try.func9, Try.ntmps9
  go_wp2
  exact bodyPost_ret (v := .agg #[.string h, .string t]) (by simp [results, Try.results9, go_sem]) rfl ⟨rfl, (Kept.refl _).alloc _⟩
/-- 1 + 64 + .. + 64^(L-1) -/
def S : Nat → Nat
  | 0 => 0
  | L + 1 => 64 * S L + 1
theorem S_add (L : Nat) : S (L + 1) = S L + 64 ^ L := by
  induction L with
  | zero => rfl
  | succ L ih =>
    have h1 : S (L + 1 + 1) = 64 * S (L + 1) + 1 := rfl
    have h2 : S (L + 1) = 64 * S L + 1 := rfl
    rw [Nat.pow_succ]
    omega
theorem len_of (tl : List UInt8) (L n : Nat) (h1 : S L ≤ n) (h2 : n < S (L + 1)) : (tails tl n).length = L := by
  induction L generalizing n with
  | zero => simp [S] at h2; subst h2; rw [tails_zero]; rfl
  | succ L ih =>
    rw [S] at h1 h2
    cases n with
    | zero => omega
    | succ n =>
      rw [tails_succ, List.length_cons, ih (n / 64) (by omega) (by omega)]

set_option maxRecDepth 100000 in
set_option maxHeartbeats 1000000 in
theorem walk (a0 : Int) (w0 : (Lit.int .i64 a0).wf = true) (w : World) :
    Calls Try.prog 4 #[.int .i64 a0] w fun e w' => e = .returned (.bool true) ∧ Below w.heap.size w w' := by
  by_cases c1 : a0 < 0
  · go_enter Try.func4, Try.ntmps4
    go_wp2
    go_ret
    exact ⟨rfl, Below.refl _ _⟩
  by_cases c2 : 2147483647 < a0
  · go_enter Try.func4, Try.ntmps4
    go_wp2
    go_ret
    exact ⟨rfl, Below.refl _ _⟩
  obtain ⟨i, rfl⟩ := Int.eq_ofNat_of_zero_le (show 0 ≤ a0 by omega)
  have hi : i ≤ 2147483647 := by omega
  clear w0
  go_enter Try.func4, Try.ntmps4
  go_wp2_with fail
  refine (mkmin jsHead jsTail _).mono ?_
  rintro e w1 ⟨rfl, hk1⟩
  have K1 := Lib.hid hk1
  clear hk1
  go_wp2_with fail
  refine (name jsHead jsTail head_size tail_size i hi _).mono ?_
  rintro e w2 ⟨rfl, hk2⟩
  have K2 := Lib.hid hk2
  clear hk2
  have hsz : (⟨(nameOf jsHead.data.toList jsTail.data.toList i).toArray⟩ : ByteArray).size = (tails jsTail.data.toList (i / 54)).length + 1 := by
    show (nameOf jsHead.data.toList jsTail.data.toList i).toArray.size = _
    simp [nameOf]
  have HSZ := Lib.hid hsz
  clear hsz
  generalize (⟨(nameOf jsHead.data.toList jsTail.data.toList i).toArray⟩ : ByteArray) = nm at *
  go_wp2
  go_loop [6, 7, 8] (fun tb tl tL => ∃ L B M : Nat, L ≤ 6 ∧ tL = .int .i64 ((L : Int) + 1) ∧ tb = .int .i64 (B : Int) ∧ tl = .int .i64 (M : Int) ∧ B ≤ 3710851743744 ∧ M ≤ 3769754304566 ∧ Hid (B = 54 * 64 ^ L) ∧ Hid (M = 54 * S (L + 1)) ∧ Hid (54 * S L ≤ i)) (fun _ _ tL => 7 - (intOf tL).toNat)
  case atStart => exact ⟨0, 54, 54, by omega, rfl, rfl, rfl, by omega, by omega, by simp [Hid], by simp [Hid, S], by simp [Hid, S]⟩
  case round =>
    obtain ⟨L, B, M, hL, rfl, rfl, rfl, hB0, hM0, hB, hM, hlow⟩ := hrel
    by_cases hge : M ≤ i
    · have hL6 : L < 6 := by
        apply Classical.byContradiction
        intro hn
        obtain rfl : L = 6 := by omega
        have := hM.out
        simp [S] at this
        omega
      have hB2 : B * 64 ≤ 3710851743744 := by
        have h := hB.out
        have hp : 64 ^ L ≤ 64 ^ 5 := Nat.pow_le_pow_right (by decide) (by omega)
        omega
      have hM2 : M + B * 64 = 54 * S (L + 2) := by
        rw [hM.out, hB.out, S_add (L + 1), Nat.pow_succ]
        omega
      have hB3 : B * 64 = 54 * 64 ^ (L + 1) := by rw [hB.out, Nat.pow_succ]; omega
      have hM3 : M + B * 64 ≤ 3769754304566 := by omega
      have hl3 : 54 * S (L + 1) ≤ i := by rw [← hM.out]; exact hge
      have HB := Lib.hid hB3
      have HM := Lib.hid hM2
      have HL := Lib.hid hl3
      clear hB3 hM2 hl3 hB hM hlow
      go_wp2
      go_round
      case rel => exact ⟨L + 1, B * 64, M + B * 64, by omega, by go_num, by go_num, by go_num, hB2, hM3, HB.out, HM.out, HL.out⟩
      case measure => simp [intOf]; omega
    · have hlen : (tails jsTail.data.toList (i / 54)).length = L := len_of _ L (i / 54) (by have := hlow.out; omega) (by have := hM.out; omega)
      have hs : nm.size = L + 1 := by rw [HSZ.out, hlen]
      have e1 : ((nm.size : Int) == (L : Int) + 1) = true := by rw [hs]; simp
      have E1 := Lib.hid e1
      clear hs e1 hlen hB hM hlow
      have d1 : decide ((M : Int) ≤ (i : Int)) = false := by simp; omega
      go_wp2
      go_ret
      exact ⟨by simp only [Array.getD]; have := E1.out; simp at this; simp [this], (Below.trans (K1.out.alloc _).below (K2.out.below.mono (by have := K1.out.size; simp; omega)))⟩
end Go.Proofs.Ytmpiepanajhfdaa.fnNumberToMinifiedNameShortestLength
