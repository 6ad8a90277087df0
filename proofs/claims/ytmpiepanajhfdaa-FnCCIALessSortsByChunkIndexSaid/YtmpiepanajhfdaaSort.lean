/-
  Plain law: an insertion sort by adjacent swaps and a selection sort of one list of integers end in the same list.
  Conditions: none; no program is in sight.
-/
import Derived.WalkKit
namespace Go.Proofs.Ytmpiepanajhfdaa.sorts
open List

theorem getD_lt {l : List Int} {i : Nat} (h : i < l.length) : l.getD i 0 = l[i] := by simp [h]
/-- two places exchanged -/
def swp (l : List Int) (i j : Nat) : List Int := (l.set i (l.getD j 0)).set j (l.getD i 0)
theorem swp_length (l : List Int) (i j : Nat) : (swp l i j).length = l.length := by simp [swp]
theorem swp_perm (l : List Int) (i j : Nat) (hi : i < l.length) (hj : j < l.length) : (swp l i j).Perm l := by
  unfold swp
  rw [getD_lt hi, getD_lt hj]
  exact List.set_set_perm hi hj
theorem swp_at (l : List Int) (i j k : Nat) (hi : i < l.length) (hj : j < l.length) : (swp l i j).getD k 0 = if k = j then l.getD i 0 else if k = i then l.getD j 0 else l.getD k 0 := by
  unfold swp
  by_cases h1 : k = j
  · subst h1
    simp [hj]
  · by_cases h2 : k = i
    · subst h2
      have : ¬ j = k := fun e => h1 e.symm
      simp [h1, hi, this]
    · have a1 : ¬ j = k := fun e => h1 e.symm
      have a2 : ¬ i = k := fun e => h2 e.symm
      simp [h1, h2, a1, a2, List.getElem?_set]

def InsOuter (xs ys : List Int) (i : Nat) : Prop := ys.Perm xs ∧ ∀ a b, a < b → b < i → ys.getD a 0 ≤ ys.getD b 0
def InsInner (xs ys : List Int) (i j : Nat) : Prop :=
  ys.Perm xs ∧ j ≤ i ∧ (∀ a b, a < b → b ≤ i → a ≠ j → b ≠ j → ys.getD a 0 ≤ ys.getD b 0) ∧ ∀ b, j < b → b ≤ i → ys.getD j 0 ≤ ys.getD b 0
theorem ins_zero (xs : List Int) : InsOuter xs xs 1 := ⟨List.Perm.refl _, fun a b h1 h2 => by omega⟩
theorem ins_start {xs ys : List Int} {i : Nat} (h : InsOuter xs ys i) : InsInner xs ys i i :=
  ⟨h.1, Nat.le_refl _, fun a b h1 h2 _ h3 => h.2 a b h1 (by omega), fun b h1 h2 => by omega⟩
theorem ins_step {xs ys : List Int} {i j : Nat} (h : InsInner xs ys i (j + 1)) (hi : i < ys.length) (hlt : ys.getD (j + 1) 0 < ys.getD j 0) : InsInner xs (swp ys (j + 1) j) i j := by
  obtain ⟨h1, h2, h3, h4⟩ := h
  have hj1 : j + 1 < ys.length := by omega
  have hj : j < ys.length := by omega
  refine ⟨(swp_perm _ _ _ hj1 hj).trans h1, by omega, fun a b hab hb ha hb2 => ?_, fun b hb hbi => ?_⟩
  · rw [swp_at _ _ _ _ hj1 hj, swp_at _ _ _ _ hj1 hj, if_neg ha, if_neg hb2]
    by_cases e1 : a = j + 1
    · rw [if_pos e1, if_neg (by omega)]
      exact h3 j b (by omega) hb (by omega) (by omega)
    · rw [if_neg e1]
      by_cases e2 : b = j + 1
      · rw [if_pos e2]
        exact h3 a j (by omega) (by omega) e1 (by omega)
      · rw [if_neg e2]
        exact h3 a b hab hb e1 e2
  · rw [swp_at _ _ _ _ hj1 hj, swp_at _ _ _ _ hj1 hj, if_pos rfl, if_neg (by omega)]
    by_cases e2 : b = j + 1
    · rw [if_pos e2]; omega
    · rw [if_neg e2]
      exact h4 b (by omega) hbi
theorem ins_end0 {xs ys : List Int} {i : Nat} (h : InsInner xs ys i 0) : InsOuter xs ys (i + 1) := by
  obtain ⟨h1, h2, h3, h4⟩ := h
  refine ⟨h1, fun a b hab hb => ?_⟩
  by_cases e : a = 0
  · subst e; exact h4 b hab (by omega)
  · exact h3 a b hab (by omega) e (by omega)
theorem ins_end {xs ys : List Int} {i j : Nat} (h : InsInner xs ys i (j + 1)) (hge : ¬ ys.getD (j + 1) 0 < ys.getD j 0) : InsOuter xs ys (i + 1) := by
  obtain ⟨h1, h2, h3, h4⟩ := h
  refine ⟨h1, fun a b hab hb => ?_⟩
  by_cases e : a = j + 1
  · subst e; exact h4 b hab (by omega)
  · by_cases e2 : b = j + 1
    · subst e2
      by_cases e3 : a = j
      · subst e3; omega
      · have := h3 a j (by omega) (by omega) e (by omega)
        omega
    · exact h3 a b hab (by omega) e e2

def SelOuter (xs zs : List Int) (p : Nat) : Prop := zs.Perm xs ∧ ∀ a b, a < p → a < b → b < zs.length → zs.getD a 0 ≤ zs.getD b 0
def SelInner (zs : List Int) (p q m : Nat) : Prop := p ≤ m ∧ m < q ∧ ∀ c, p ≤ c → c < q → zs.getD m 0 ≤ zs.getD c 0
theorem sel_zero (xs : List Int) : SelOuter xs xs 0 := ⟨List.Perm.refl _, fun a b h => by omega⟩
theorem sel_start (zs : List Int) (p : Nat) : SelInner zs p (p + 1) p := by
  refine ⟨Nat.le_refl _, by omega, fun c h1 h2 => ?_⟩
  have : c = p := by omega
  subst this
  omega
theorem sel_less {zs : List Int} {p q m : Nat} (h : SelInner zs p q m) (hlt : zs.getD q 0 < zs.getD m 0) : SelInner zs p (q + 1) q := by
  obtain ⟨h1, h2, h3⟩ := h
  refine ⟨by omega, by omega, fun c hc1 hc2 => ?_⟩
  by_cases e : c = q
  · subst e; omega
  · have := h3 c hc1 (by omega); omega
theorem sel_more {zs : List Int} {p q m : Nat} (h : SelInner zs p q m) (hge : ¬ zs.getD q 0 < zs.getD m 0) : SelInner zs p (q + 1) m := by
  obtain ⟨h1, h2, h3⟩ := h
  refine ⟨h1, by omega, fun c hc1 hc2 => ?_⟩
  by_cases e : c = q
  · subst e; omega
  · exact h3 c hc1 (by omega)
theorem sel_step {xs zs : List Int} {p m : Nat} (h : SelOuter xs zs p) (hi : SelInner zs p zs.length m) : SelOuter xs (swp zs p m) (p + 1) := by
  obtain ⟨h1, h2⟩ := h
  obtain ⟨g1, g2, g3⟩ := hi
  have hp : p < zs.length := by omega
  refine ⟨(swp_perm _ _ _ hp g2).trans h1, fun a b ha hab hb => ?_⟩
  rw [swp_length] at hb
  rw [swp_at _ _ _ _ hp g2, swp_at _ _ _ _ hp g2]
  by_cases e0 : a = p
  · by_cases e1 : a = m
    · have e2 : p = m := by omega
      subst e2
      rw [if_pos e1, if_neg (by omega), if_neg (by omega)]
      exact g3 b (by omega) hb
    · rw [if_neg e1, if_pos e0]
      by_cases e3 : b = m
      · rw [if_pos e3]; exact g3 p (by omega) hp
      · rw [if_neg e3, if_neg (by omega)]
        exact g3 b (by omega) hb
  · rw [if_neg (by omega), if_neg e0]
    by_cases e3 : b = m
    · rw [if_pos e3]; exact h2 a p (by omega) (by omega) hp
    · rw [if_neg e3]
      by_cases e4 : b = p
      · rw [if_pos e4]; exact h2 a m (by omega) (by omega) g2
      · rw [if_neg e4]; exact h2 a b (by omega) hab hb
theorem sorted_eq {xs ys zs : List Int} (h1 : InsOuter xs ys ys.length) (h2 : SelOuter xs zs zs.length) : ys = zs := by
  have hp : ys.Perm zs := h1.1.trans h2.1.symm
  refine List.Perm.eq_of_pairwise (le := fun a b : Int => a ≤ b) ?_ ?_ ?_ hp
  · intro a b _ _ h3 h4
    omega
  · rw [List.pairwise_iff_getElem]
    intro i j hi hj hij
    have := h1.2 i j hij hj
    rw [getD_lt hi, getD_lt hj] at this
    exact this
  · rw [List.pairwise_iff_getElem]
    intro i j hi hj hij
    have := h2.2 i j hi hij hj
    rw [getD_lt hi, getD_lt hj] at this
    exact this
theorem sorted_small {xs ys : List Int} (h : InsOuter xs ys 1) (hl : ys.length ≤ 1) : InsOuter xs ys ys.length := ⟨h.1, fun a b h1 h2 => by omega⟩
end Go.Proofs.Ytmpiepanajhfdaa.sorts
