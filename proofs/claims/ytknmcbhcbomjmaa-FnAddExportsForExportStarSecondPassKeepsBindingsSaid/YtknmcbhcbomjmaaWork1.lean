/-
  Stacks of one-cell elements in rows of the call's own: the last element read and replaced, another row grown.
  Conditions: none.
-/
import Derived.Test.YtknmcbhcbomjmaaWork
import Derived.Laws.OwnMore
namespace Go.Proofs.Ytknmcbhcbomjmaa.kit
open Go.ChangeShapes Go.WideShapes Go.ChangeAt Go.RowKit

section
variable {α : Type} {w w2 : World} {base : Nat} {E : TypeId} {size : Nat} {f : α → List Value} {t : Value} {wk : List α}
theorem Wk.grown (h : Wk w base E size f t wk) {row : Option Nat} (g : w.grownBy w2 row) (hne : t.ownBlock = none ∨ t.ownBlock ≠ row) : Wk w2 base E size f t wk := ⟨h.1, h.2.kept g hne⟩
/-- a stack with a top: where it lies, its top's cell -/
theorem Wk.top {e : α → Value} {u : α} (h : Wk w base E 1 (fun x => [e x]) t (wk ++ [u])) :
    ∃ g c, t = .slice (some ⟨g, 0, none⟩) (wk.length + 1) c ∧ wk.length + 1 ≤ c ∧ c ≤ maxLen ∧ t.ownBlock = some g ∧ base ≤ g ∧ g < w.heap.size ∧ w.cell? ⟨g, wk.length, none⟩ = some (e u) ∧ w.frozen? ⟨g, wk.length, none⟩ = false ∧
      Wk w base E 1 (fun x => [e x]) (.slice (some ⟨g, 0, none⟩) wk.length c) wk ∧ ∀ v, Wk (w.setCell ⟨g, wk.length, none⟩ (e v)) base E 1 (fun x => [e x]) t (wk ++ [v]) := by
  obtain ⟨g, c, rfl, h1, h2, h3, h4⟩ := Wk.pop (f := fun x => [e x]) (size := 1) (fun _ => rfl) h
  have e1 : (wk ++ [u]).length = wk.length + 1 := by simp
  have h5 := h.2
  rw [e1] at h5
  have hl := h5.lt g rfl
  refine ⟨g, c, rfl, h1, h2, rfl, hl.1, hl.2, by have := h3 0 (by omega); simpa using this, h5.frozenAt _, h4, fun v => ?_⟩
  have h6 := h5.stored wk.length (e v)
  refine Wk.of_own h6.1 (by simp) ?_
  rw [List.flatMap_append, List.flatMap_append]
  have hlen : (wk.flatMap fun x => [e x]).length = wk.length := by rw [flat_len (size := 1) (fun _ => rfl), Nat.mul_one]
  rw [List.set_append_right _ _ (by omega), hlen]
  simp
/-- a fresh stack of one element -/
theorem Wk.one {e : α → Value} (w : World) (hb : base ≤ w.heap.size) (u : α) : Wk (w.alloc (.cells #[e u] E)) base E 1 (fun x => [e x]) (.slice (some ⟨w.heap.size, 0, none⟩) 1 1) [u] :=
  ⟨⟨_, _, rfl⟩, by simp, Or.inr ⟨w.heap.size, 1, #[e u], rfl, hb, heap_alloc_new w _, Nat.le_refl _, by unfold maxLen; omega, rfl, by simp⟩⟩
theorem Wk.nil (w : World) : Wk w base E size f (.slice none 0 0) [] := ⟨⟨_, _, rfl⟩, by simp, Or.inl ⟨rfl, rfl⟩⟩
end
end Go.Proofs.Ytknmcbhcbomjmaa.kit
