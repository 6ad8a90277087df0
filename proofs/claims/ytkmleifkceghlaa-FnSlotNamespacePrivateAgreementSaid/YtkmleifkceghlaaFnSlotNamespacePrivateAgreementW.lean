/-
  The walk of FnSlotNamespacePrivateAgreement: A Symbol is in the private-name slot namespace exactly when its kind is private and bit 0 of its flags is clear, for every kind byte and flag word.
  Conditions: none beyond those of the given statement Rows.FnSlotNamespacePrivateAgreementSaid.
-/
import Derived.Test.YtkmleifkceghlaaRows
import Derived.WalkKit
import Derived.ProofKit
import Derived.OpenShut
import Derived.Laws.BitsAllLaws
namespace Go.Proofs.Ytkmleifkceghlaa.fnSlotNamespacePrivateAgreement
open Go.ChangeShapes Go.WideShapes Go.ChangeAt Go.RowKit
set_option linter.unusedVariables false      -- a walk need not use every 'w<i>' (that an integer argument fits its kind)

theorem low (f : Int) (h0 : 0 ≤ f) (h1 : f ≤ 65535) : bits .and .u16 f 1 = f % 2 := by
  obtain ⟨n, rfl⟩ := Int.eq_ofNat_of_zero_le h0
  have e : (1 : Int) = ((1 : Nat) : Int) := rfl
  rw [e, u16_and_nat _ _ (by omega) (by decide), nat_mask1]
  omega
set_option maxHeartbeats 2000000 in
theorem walk (a0 : Int) (a1 : Int) (w0 : (Lit.int .u8 a0).wf = true) (w1 : (Lit.int .u16 a1).wf = true) (w : World) :
    Calls Try.prog 7 #[.int .u8 a0, .int .u16 a1] w fun e w' => e = .returned (.bool true) ∧ Grown w w' := by
  have b0 := bounds_u8 w0
  have b1 := bounds_u16 w1
  have hl := low a1 (by omega) (by omega)
  have hb : ∀ b, b = false ∨ b = true := by intro b; cases b <;> simp
  rcases hb (a1 % 2 == 0) with p1 | p1 <;> rcases hb (a0 == 0) with p2 | p2 <;> rcases hb (decide (8 ≤ a0)) with p3 | p3 <;> rcases hb (decide (a0 ≤ 17)) with p4 | p4 <;> rcases hb (a0 == 18) with p5 | p5 <;> rcases hb (a0 == 24) with p6 | p6 <;> first
    | (exfalso; simp at p1 p2 p3 p4 p5 p6; omega)
    | skip
  all_goals
    have p7 : (a1 % 2 != 0) = !(a1 % 2 == 0) := rfl
    rw [p1] at p7
    go_enter Try.func7, Try.ntmps7
    go_wp2
    go_ret
    exact ⟨rfl, (Grown.refl _).alloc _ _⟩
end Go.Proofs.Ytkmleifkceghlaa.fnSlotNamespacePrivateAgreement
