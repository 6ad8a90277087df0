/-
  The walk of FnFlagsHasBitModel: Has(f, g) is true exactly when some bit position among the sixteen is set in both f and g.
  Conditions: none beyond those of the given statement Rows.FnFlagsHasBitModelSaid.
-/
import Derived.Test.YtkmleifkceghlabRows
import Derived.WalkKit
import Derived.ProofKit
import Derived.OpenShut
import Derived.Laws.BitsAllLaws
import Derived.LoopTactic
import Derived.Lib.Hide
namespace Go.Proofs.Ytkmleifkceghlab.fnFlagsHasBitModel
open Go.ChangeShapes Go.WideShapes Go.ChangeAt Go.RowKit
set_option linter.unusedVariables false      -- a walk need not use every 'w<i>' (that an integer argument fits its kind)

def anyB (f g : Nat) (k : Nat) : Bool := (List.range k).any fun i => f.testBit i && g.testBit i
theorem anyB_zero (f g : Nat) : anyB f g 0 = false := rfl
theorem anyB_succ (f g k : Nat) : anyB f g (k + 1) = (anyB f g k || (f.testBit k && g.testBit k)) := by
  simp [anyB, List.range_succ, List.any_append]
theorem anyB_all (f g : Nat) (hf : f < 65536) (hg : g < 65536) : anyB f g 16 = ((f &&& g) != 0) := by
  rw [Bool.eq_iff_iff]
  simp only [anyB, List.any_eq_true, List.mem_range, Bool.and_eq_true, bne_iff_ne, ne_eq]
  constructor
  · rintro ⟨i, _, h1, h2⟩ h
    have := congrArg (fun x => x.testBit i) h
    simp [Nat.testBit_and, h1, h2] at this
  · intro h
    apply Classical.byContradiction
    intro hn
    apply h
    apply Nat.eq_of_testBit_eq
    intro i
    simp only [Nat.testBit_and, Nat.zero_testBit]
    by_cases hi : i < 16
    · cases h1 : f.testBit i <;> cases h2 : g.testBit i <;> simp
      exact hn ⟨i, hi, h1, h2⟩
    · have hi' : 16 ≤ i := by omega
      have hp : 2 ^ 16 ≤ 2 ^ i := Nat.pow_le_pow_right (by decide) hi'
      have : f.testBit i = false := Nat.testBit_lt_two_pow (Nat.lt_of_lt_of_le hf hp)
      simp [this]
theorem bit_true (f k : Nat) (hf : f ≤ 65535) (h : f.testBit k = true) : bits .and .u16 ((f : Int) / 2 ^ k) 1 = 1 := by
  have e1 : ((f : Int) / 2 ^ k) = ((f / 2 ^ k : Nat) : Int) := by simp
  have e2 : (1 : Int) = ((1 : Nat) : Int) := rfl
  have hl : f / 2 ^ k ≤ f := Nat.div_le_self _ _
  rw [e1, e2, u16_and_nat _ _ (by omega) (by decide), nat_mask1]
  rw [Nat.testBit_eq_decide_div_mod_eq] at h
  simp at h
  rw [h]
theorem bit_false (f k : Nat) (hf : f ≤ 65535) (h : f.testBit k = false) : bits .and .u16 ((f : Int) / 2 ^ k) 1 = 0 := by
  have e1 : ((f : Int) / 2 ^ k) = ((f / 2 ^ k : Nat) : Int) := by simp
  have e2 : (1 : Int) = ((1 : Nat) : Int) := rfl
  have hl : f / 2 ^ k ≤ f := Nat.div_le_self _ _
  rw [e1, e2, u16_and_nat _ _ (by omega) (by decide), nat_mask1]
  rw [Nat.testBit_eq_decide_div_mod_eq] at h
  simp at h
  rw [h]; rfl
theorem walk (a0 : Int) (a1 : Int) (w0 : (Lit.int .u16 a0).wf = true) (w1 : (Lit.int .u16 a1).wf = true) (w : World) :
    Calls Try.prog 5 #[.int .u16 a0, .int .u16 a1] w fun e w' => e = .returned (.bool true) ∧ Grown w w' := by
  have b0 := bounds_u16 w0
  have b1 := bounds_u16 w1
  obtain ⟨f, rfl⟩ := Int.eq_ofNat_of_zero_le b0.1
  obtain ⟨g, rfl⟩ := Int.eq_ofNat_of_zero_le b1.1
  have hall := anyB_all f g (by omega) (by omega)
  have hand := u16_and_nat f g (by omega) (by omega)
  have hne : (((f &&& g : Nat) : Int) != 0) = ((f &&& g) != 0) := by
    rw [Bool.eq_iff_iff]; simp
  have HA := Lib.hid hall
  have HD := Lib.hid hand
  have HN := Lib.hid hne
  clear hall hand hne
  go_enter Try.func5, Try.ntmps5
  go_wp2
  go_loop [5, 6] (fun t i => ∃ k : Nat, k ≤ 16 ∧ i = .int .u64 k ∧ t = .bool (anyB f g k)) (fun _ i => 16 - (intOf i).toNat)
  case atStart => exact ⟨0, by omega, rfl, rfl⟩
  case round =>
    obtain ⟨k, hk, rfl, rfl⟩ := hrel
    by_cases hlt : k < 16
    · have hs := Lib.hid (anyB_succ f g k)
      cases hb1 : f.testBit k
      · have e1 := bit_false f k (by omega) hb1
        go_wp2
        all_goals
          go_round
          case rel => exact ⟨k + 1, by omega, by go_num, by rw [hs.out, hb1]; simp⟩
          case measure => simp [intOf]; omega
      · have e1 := bit_true f k (by omega) hb1
        cases hb2 : g.testBit k
        · have e2 := bit_false g k (by omega) hb2
          go_wp2
          all_goals
            go_round
            case rel => exact ⟨k + 1, by omega, by go_num, by rw [hs.out, hb1, hb2]; simp⟩
            case measure => simp [intOf]; omega
        · have e2 := bit_true g k (by omega) hb2
          go_wp2
          all_goals
            go_round
            case rel => exact ⟨k + 1, by omega, by go_num, by rw [hs.out, hb1, hb2]; simp⟩
            case measure => simp [intOf]; omega
    · obtain rfl : k = 16 := by omega
      have e0 := HA.out
      have e1 := HD.out
      have e2 := HN.out
      go_wp2
      go_ret
      exact ⟨by simp, Grown.refl _⟩
end Go.Proofs.Ytkmleifkceghlab.fnFlagsHasBitModel
