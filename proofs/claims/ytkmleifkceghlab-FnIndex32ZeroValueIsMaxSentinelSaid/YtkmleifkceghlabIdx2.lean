/-
  The contract of MakeIndex32 over this seat's program: it returns the flipped word and lays one new block.
  Conditions: the words fit uint32.
-/
import Derived.Test.YtkmleifkceghlabRows
import Derived.WalkKit
import Derived.ProofKit
import Derived.OpenShut
import Derived.Laws.BitsAllLaws
namespace Go.Proofs.Ytkmleifkceghlab.idx2
open Go.ChangeShapes Go.WideShapes Go.ChangeAt Go.RowKit

theorem flip32 (a : Int) (h0 : 0 ≤ a) (h1 : a ≤ 4294967295) : bits .xor .u32 IntKind.u32.max a = 4294967295 - a := by
  obtain ⟨n, rfl⟩ := Int.eq_ofNat_of_zero_le h0
  have hn : n < 4294967296 := by omega
  have hm : IntKind.u32.max = ((4294967295 : Nat) : Int) := by decide
  rw [hm, u32_xor_nat _ _ (by decide) hn]
  have : 4294967295 ^^^ n = 4294967295 - n := by
    have h : (BitVec.allOnes 32 ^^^ BitVec.ofNat 32 n).toNat = (~~~ BitVec.ofNat 32 n).toNat := by rw [BitVec.allOnes_xor]
    rw [BitVec.toNat_xor, BitVec.toNat_not] at h
    simp only [BitVec.toNat_allOnes, BitVec.toNat_ofNat, Nat.reducePow, Nat.reduceSub, Nat.mod_eq_of_lt hn] at h
    exact h
  rw [this]; omega

theorem make' (a : Int) (h0 : 0 ≤ a) (h1 : a ≤ 4294967295) (w : World) :
    Calls Try.prog 11 #[.int .u32 a] w fun e w' => e = .returned (.agg #[.int .u32 (4294967295 - a)]) ∧ w.alloc (.cells #[.int .u32 (4294967295 - a)] 24) = w' := by
  have hx := flip32 a h0 h1
  go_enter Try.func11, Try.ntmps11
  go_wp2
  exact bodyPost_ret (v := .agg #[.int .u32 (4294967295 - a)]) (by simp [results, Try.results11, go_sem]) rfl ⟨rfl, rfl⟩

end Go.Proofs.Ytkmleifkceghlab.idx2
