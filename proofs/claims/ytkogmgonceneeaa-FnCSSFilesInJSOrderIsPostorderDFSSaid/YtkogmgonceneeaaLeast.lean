/-
  The least number of which something holds: a loop's measure where the relation knows it but the slots do not.
  Conditions: none.
-/
import Derived.Test.YtkogmgonceneeaaKit
namespace Go.Proofs.Ytkogmgonceneeaa.kit

theorem ex_min {P : Nat → Prop} (m : Nat) (h : P m) : ∃ k, P k ∧ ∀ j, P j → k ≤ j := by
  induction m using Nat.strongRecOn with
  | ind m ih =>
    by_cases g : ∃ j, j < m ∧ P j
    · obtain ⟨j, hj, pj⟩ := g
      exact ih j hj pj
    · exact ⟨m, h, fun j hj => Nat.le_of_not_lt (fun c => g ⟨j, c, hj⟩)⟩
open Classical in
noncomputable def least (P : Nat → Prop) : Nat := if h : ∃ k, P k ∧ ∀ j, P j → k ≤ j then Classical.choose h else 0
theorem least_is {P : Nat → Prop} {m : Nat} (h : P m) : P (least P) := by
  unfold least
  rw [dif_pos (ex_min m h)]
  exact (Classical.choose_spec (ex_min m h)).1
theorem least_le {P : Nat → Prop} {m : Nat} (h : P m) : least P ≤ m := by
  unfold least
  rw [dif_pos (ex_min m h)]
  exact (Classical.choose_spec (ex_min m h)).2 m h
end Go.Proofs.Ytkogmgonceneeaa.kit
