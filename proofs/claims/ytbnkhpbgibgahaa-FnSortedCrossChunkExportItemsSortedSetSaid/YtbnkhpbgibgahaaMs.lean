/-
  The law's merge sort in plain lists: passes of merges over blocks, and what they leave: a permutation in order.
  Conditions: none; no program in sight.
-/
import Derived.Test.YtbnkhpbgibgahaaKit
namespace Go.Proofs.Ytbnkhpbgibgahaa.ms

section
variable {α : Type} (le : α → α → Bool)

/-- one pass: blocks of w, two and two, are merged -/
def mpass (w : Nat) (X : List α) : List α :=
  if _h : X = [] ∨ w = 0 then X else List.merge (X.take w) ((X.drop w).take w) le ++ mpass w (X.drop (2 * w))
termination_by X.length
decreasing_by
  rw [not_or] at _h
  have : 0 < X.length := List.length_pos_iff.2 _h.1
  rw [List.length_drop]
  omega
theorem mpass_nil (w : Nat) : mpass le w [] = [] := by rw [mpass]; simp
theorem mpass_step {w : Nat} (hw : 0 < w) {X : List α} (hX : X ≠ []) : mpass le w X = List.merge (X.take w) ((X.drop w).take w) le ++ mpass le w (X.drop (2 * w)) := by
  conv => lhs; rw [mpass]
  rw [dif_neg (by simp [hX]; omega)]
theorem split2 (w : Nat) (X : List α) : X.take w ++ (X.drop w).take w ++ X.drop (2 * w) = X := by
  have e : X.drop (2 * w) = (X.drop w).drop w := by rw [List.drop_drop]; congr 1; omega
  rw [e, List.append_assoc, List.take_append_drop, List.take_append_drop]
theorem mpass_perm (w : Nat) (n : Nat) : ∀ X : List α, X.length ≤ n → (mpass le w X).Perm X := by
  induction n with
  | zero => intro X h; rw [List.length_eq_zero_iff.1 (by omega : X.length = 0), mpass_nil]
  | succ n ih =>
    intro X h
    by_cases hX : X = []
    · subst hX; rw [mpass_nil]
    by_cases hw : w = 0
    · rw [mpass, dif_pos (.inr hw)]
    rw [mpass_step le (by omega) hX]
    have h2 := ih (X.drop (2 * w)) (by rw [List.length_drop]; omega)
    refine ((List.merge_perm_append (le := le)).append h2).trans ?_
    rw [split2]
theorem mpass_length (w : Nat) (X : List α) : (mpass le w X).length = X.length := (mpass_perm le w _ X (Nat.le_refl _)).length_eq

/-- each block of w is in order -/
def Blocks (w : Nat) (X : List α) : Prop := ∀ k, ((X.drop (k * w)).take w).Pairwise (fun a b => le a b = true)
theorem blocks_one (X : List α) : Blocks le 1 X := fun k => by
  rcases h : X.drop (k * 1) with _ | ⟨a, l⟩ <;> simp
theorem blocks_all {w : Nat} {X : List α} (h : Blocks le w X) (hw : X.length ≤ w) : X.Pairwise (fun a b => le a b = true) := by
  have := h 0
  rwa [Nat.zero_mul, List.drop_zero, List.take_of_length_le hw] at this
theorem mpass_blocks (htr : ∀ a b c, le a b = true → le b c = true → le a c = true) (hto : ∀ a b, (le a b || le b a) = true) {w : Nat} (hw : 0 < w) (n : Nat) : ∀ X : List α, X.length ≤ n → Blocks le w X → Blocks le (2 * w) (mpass le w X) := by
  induction n with
  | zero =>
    intro X h _
    rw [List.length_eq_zero_iff.1 (by omega : X.length = 0), mpass_nil]
    intro k
    simp
  | succ n ih =>
    intro X h hb
    by_cases hX : X = []
    · subst hX; rw [mpass_nil]; intro k; simp
    rw [mpass_step le hw hX]
    have hpos : 0 < X.length := List.length_pos_iff.2 hX
    have hb2 : Blocks le w (X.drop (2 * w)) := fun k => by
      have := hb (k + 2)
      rw [List.drop_drop]
      rwa [show 2 * w + k * w = (k + 2) * w by rw [Nat.add_mul]; omega]
    have h2 := ih (X.drop (2 * w)) (by rw [List.length_drop]; omega) hb2
    have hm : (List.merge (X.take w) ((X.drop w).take w) le).Pairwise (fun a b => le a b = true) := by
      refine List.pairwise_merge (fun a b c => htr a b c) (fun a b => hto a b) _ _ ?_ ?_
      · have := hb 0; rwa [Nat.zero_mul, List.drop_zero] at this
      · have := hb 1; rwa [Nat.one_mul] at this
    have hl : (List.merge (X.take w) ((X.drop w).take w) le).length = min w X.length + min w (X.length - w) := by
      rw [(List.merge_perm_append (le := le)).length_eq, List.length_append, List.length_take, List.length_take, List.length_drop]
    intro k
    rcases k with _ | k
    · rw [Nat.zero_mul, List.drop_zero]
      by_cases hle : 2 * w ≤ X.length
      · rw [List.take_append_of_le_length (by omega), List.take_of_length_le (by omega)]
        exact hm
      · have e : X.drop (2 * w) = [] := List.drop_eq_nil_of_le (by omega)
        rw [e, mpass_nil, List.append_nil]
        exact hm.sublist (List.take_sublist _ _)
    · by_cases hle : 2 * w ≤ X.length
      · have e : (k + 1) * (2 * w) = (List.merge (X.take w) ((X.drop w).take w) le).length + k * (2 * w) := by rw [hl, Nat.add_mul]; omega
        rw [e, ← List.drop_drop, List.drop_left]
        exact h2 k
      · have e : X.drop (2 * w) = [] := List.drop_eq_nil_of_le (by omega)
        rw [e, mpass_nil, List.append_nil, List.drop_eq_nil_of_le]
        · simp
        · rw [hl, Nat.add_mul]; omega
end
end Go.Proofs.Ytbnkhpbgibgahaa.ms
