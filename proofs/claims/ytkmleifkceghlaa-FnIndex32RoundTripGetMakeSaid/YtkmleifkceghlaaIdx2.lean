/-
  Contracts of MakeIndex32, GetIndex and ZZnewIndex32 over this seat's program: each returns the flipped word and lays at most new blocks.
  Conditions: the words fit uint32.
-/
import Derived.Test.YtkmleifkceghlaaRows
import Derived.WalkKit
import Derived.ProofKit
import Derived.OpenShut
import Derived.Laws.BitsAllLaws
namespace Go.Proofs.Ytkmleifkceghlaa.idx2
open Go.ChangeShapes Go.WideShapes Go.ChangeAt Go.RowKit

theorem flip32 (a : Int) (h0 : 0 ≤ a) (h1 : a ≤ 4294967295) : bits .xor .u32 IntKind.u32.max a = 4294967295 - a := by
  obtain ⟨n, rfl⟩ := Int.eq_ofNat_of_zero_le h0
  have hn : n < 4294967296 := by omega
  have hm : IntKind.u32.max = ((4294967295 : Nat) : Int) := by decide
  rw [hm, u32_xor_nat _ _ (by decide) hn]
  have : 4294967295 ^^^ n = 4294967295 - n := by
    have h : (BitVec.allOnes 32 ^^^ BitVec.ofNat 32 n).toNat = (~~~ BitVec.ofNat 32 n).toNat := by rw [BitVec.allOnes_xor]
    rw [BitVec.toNat_xor, BitVec.toNat_not] at h
    simp only [BitVec.toNat_allOnes, BitVec.toNat_ofNat, Nat.reducePow, Nat.reduceSub, Nat.mod_eq_of_lt hn] at h
    exact h
  rw [this]; omega

theorem make (a : Int) (h0 : 0 ≤ a) (h1 : a ≤ 4294967295) (w : World) :
    Calls Try.prog 9 #[.int .u32 a] w fun e w' => e = .returned (.agg #[.int .u32 (4294967295 - a)]) ∧ Grown w w' := by
  have hx := flip32 a h0 h1
  go_enter Try.func9, Try.ntmps9
  go_wp2
  exact bodyPost_ret (v := .agg #[.int .u32 (4294967295 - a)]) (by simp [results, Try.results9, go_sem]) rfl ⟨rfl, (Grown.refl _).alloc _ _⟩

theorem newIdx (a : Int) (w : World) :
    Calls Try.prog 10 #[.int .u32 a] w fun e w' => e = .returned (.agg #[.int .u32 a]) ∧ Grown w w' := by
  go_enter Try.func10, Try.ntmps10
  go_wp2
  exact bodyPost_ret (v := .agg #[.int .u32 a]) (by simp [results, Try.results10, go_sem]) rfl ⟨rfl, (Grown.refl _).alloc _ _⟩

theorem get (a : Int) (h0 : 0 ≤ a) (h1 : a ≤ 4294967295) (w : World) :
    Calls Try.prog 11 #[.agg #[.int .u32 a]] w fun e w' => e = .returned (.int .u32 (4294967295 - a)) ∧ Grown w w' := by
  have hx := flip32 a h0 h1
  go_enter Try.func11, Try.ntmps11
  go_wp2
  go_ret
  exact ⟨rfl, (Grown.refl _).alloc _ _⟩

theorem Grown.trans {a b c : World} (h : Grown a b) (g : Grown b c) : Grown a c :=
  ⟨World.keptBut_trans h.1 (World.keptBut_mono (fun _ f => f.elim) g.1), fun x => (g.2.1 x).trans (h.2.1 x), Nat.le_trans h.2.2 g.2.2⟩
theorem make' (a : Int) (h0 : 0 ≤ a) (h1 : a ≤ 4294967295) (w : World) :
    Calls Try.prog 9 #[.int .u32 a] w fun e w' => e = .returned (.agg #[.int .u32 (4294967295 - a)]) ∧ w.alloc (.cells #[.int .u32 (4294967295 - a)] 24) = w' := by
  have hx := flip32 a h0 h1
  go_enter Try.func9, Try.ntmps9
  go_wp2
  exact bodyPost_ret (v := .agg #[.int .u32 (4294967295 - a)]) (by simp [results, Try.results9, go_sem]) rfl ⟨rfl, rfl⟩

theorem get' (a : Int) (h0 : 0 ≤ a) (h1 : a ≤ 4294967295) (w : World) :
    Calls Try.prog 11 #[.agg #[.int .u32 a]] w fun e w' => e = .returned (.int .u32 (4294967295 - a)) ∧ w.alloc (.cells #[.int .u32 a] 24) = w' := by
  have hx := flip32 a h0 h1
  go_enter Try.func11, Try.ntmps11
  go_wp2
  go_ret
  exact ⟨rfl, rfl⟩
end Go.Proofs.Ytkmleifkceghlaa.idx2
