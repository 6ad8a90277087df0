/-
  The merge's three inner loops in plain lists: what is laid, what is left to merge, and the blocks behind.
  Conditions: none; no program in sight.
-/
import Derived.Test.YtbnkhpbgibgahaaMd
namespace Go.Proofs.Ytbnkhpbgibgahaa.ms

def slc {α : Type} (X : List α) (i j : Nat) : List α := (X.take j).drop i
section
variable {α : Type}
theorem slc_nil {X : List α} {i j : Nat} (h : j ≤ i) : slc X i j = [] := List.drop_eq_nil_of_le (by rw [List.length_take]; omega)
theorem slc_cons {X : List α} {i j : Nat} (h : i < j) {x : α} (hx : X[i]? = some x) : slc X i j = x :: slc X (i + 1) j := by
  obtain ⟨hl, e⟩ := List.getElem?_eq_some_iff.1 hx
  unfold slc
  have h2 : i < (X.take j).length := by rw [List.length_take]; omega
  rw [List.drop_eq_getElem_cons h2]
  simp [e]
theorem take_set {B : List α} {k : Nat} (h : k < B.length) (y : α) : (B.set k y).take (k + 1) = B.take k ++ [y] := by
  rw [List.take_succ_eq_append_getElem (by simpa using h), List.take_set_of_le (Nat.le_refl k), List.getElem_set_self]
end
theorem merge_r {x y : En} (a b : List En) (hl : elt y x = true) : List.merge (x :: a) (y :: b) ele = y :: List.merge (x :: a) b ele := by
  rw [List.merge]
  simp [ele, hl]
theorem merge_l {x y : En} (a b : List En) (hl : elt y x = false) : List.merge (x :: a) (y :: b) ele = x :: List.merge a (y :: b) ele := by
  rw [List.merge]
  simp [ele, hl]
/-- where a pass stands: the first k are laid, [i, mid) and [j, hi) are still to be merged, the blocks from hi on are untouched -/
def MI (X B : List En) (w k i mid j hi : Nat) : Prop := B.length = X.length ∧ B.take k ++ (List.merge (slc X i mid) (slc X j hi) ele ++ mpass ele w (X.drop hi)) = mpass ele w X
section
variable {X B : List En} {w k i mid j hi : Nat} {x y : En}
theorem MI.right (h : MI X B w k i mid j hi) (hi1 : i < mid) (hj : j < hi) (hk : k < X.length) (hx : X[i]? = some x) (hy : X[j]? = some y) (hl : elt y x = true) : MI X (B.set k y) w (k + 1) i mid (j + 1) hi := by
  refine ⟨by rw [List.length_set]; exact h.1, ?_⟩
  rw [take_set (by rw [h.1]; exact hk), ← h.2, slc_cons hi1 hx, slc_cons hj hy, merge_r _ _ hl]
  simp
theorem MI.left (h : MI X B w k i mid j hi) (hi1 : i < mid) (hj : j < hi) (hk : k < X.length) (hx : X[i]? = some x) (hy : X[j]? = some y) (hl : elt y x = false) : MI X (B.set k x) w (k + 1) (i + 1) mid j hi := by
  refine ⟨by rw [List.length_set]; exact h.1, ?_⟩
  rw [take_set (by rw [h.1]; exact hk), ← h.2, slc_cons hi1 hx, slc_cons hj hy, merge_l _ _ hl]
  simp
theorem MI.lrest (h : MI X B w k i mid j hi) (hi1 : i < mid) (hj : hi ≤ j) (hk : k < X.length) (hx : X[i]? = some x) : MI X (B.set k x) w (k + 1) (i + 1) mid j hi := by
  refine ⟨by rw [List.length_set]; exact h.1, ?_⟩
  rw [take_set (by rw [h.1]; exact hk), ← h.2, slc_cons hi1 hx, slc_nil hj]
  simp
theorem MI.rrest (h : MI X B w k i mid j hi) (hi1 : mid ≤ i) (hj : j < hi) (hk : k < X.length) (hy : X[j]? = some y) : MI X (B.set k y) w (k + 1) i mid (j + 1) hi := by
  refine ⟨by rw [List.length_set]; exact h.1, ?_⟩
  rw [take_set (by rw [h.1]; exact hk), ← h.2, slc_cons hj hy, slc_nil hi1]
  simp
end
/-- where a pass stands between two blocks -/
def ML (X B : List En) (w lo : Nat) : Prop := B.length = X.length ∧ B.take lo ++ mpass ele w (X.drop lo) = mpass ele w X
section
variable {X B : List En} {w lo mid hi k i j : Nat}
theorem ML.start (h : B.length = X.length) : ML X B w 0 := ⟨h, by simp⟩
theorem ML.open_ (h : ML X B w lo) (hw : 0 < w) (hlo : lo < X.length) (hm : mid = min (lo + w) X.length) (hh : hi = min (mid + w) X.length) : MI X B w lo lo mid mid hi := by
  refine ⟨h.1, ?_⟩
  have hne : X.drop lo ≠ [] := fun e => by
    have := congrArg List.length e
    simp at this
    omega
  rw [← h.2, mpass_step ele hw hne]
  have e1 : slc X lo mid = (X.drop lo).take w := by
    unfold slc
    rw [List.drop_take]
    by_cases hc : lo + w ≤ X.length
    · rw [hm, Nat.min_eq_left hc]; congr 1; omega
    · rw [hm, Nat.min_eq_right (by omega), List.take_of_length_le (by rw [List.length_drop]; omega), List.take_of_length_le (by rw [List.length_drop]; omega)]
  have e2 : slc X mid hi = ((X.drop lo).drop w).take w := by
    unfold slc
    rw [List.drop_take, List.drop_drop]
    by_cases hc : lo + w ≤ X.length
    · have hmid : mid = lo + w := by omega
      rw [hmid]
      by_cases hd : lo + w + w ≤ X.length
      · rw [hh, hmid, Nat.min_eq_left hd]; congr 1; omega
      · rw [hh, hmid, Nat.min_eq_right (by omega), List.take_of_length_le (by rw [List.length_drop]; omega), List.take_of_length_le (by rw [List.length_drop]; omega)]
    · have hmid : mid = X.length := by omega
      rw [hmid, List.drop_eq_nil_of_le (Nat.le_refl _), List.drop_eq_nil_of_le (by omega)]
      simp
  have e3 : X.drop hi = (X.drop lo).drop (2 * w) := by
    rw [List.drop_drop]
    by_cases hd : lo + 2 * w ≤ X.length
    · rw [show hi = lo + 2 * w by omega]
    · rw [List.drop_eq_nil_of_le (by omega), List.drop_eq_nil_of_le (by omega)]
  rw [e1, e2, e3]
theorem MI.close (h : MI X B w hi i mid j hi) (hi1 : mid ≤ i) (hj : hi ≤ j) {lo2 : Nat} (h2 : hi = lo2 ∨ (hi = X.length ∧ X.length ≤ lo2)) : ML X B w lo2 := by
  refine ⟨h.1, ?_⟩
  rw [← h.2, slc_nil hi1, slc_nil hj]
  rcases h2 with rfl | ⟨h3, h4⟩
  · simp
  · rw [List.drop_eq_nil_of_le (by omega : X.length ≤ lo2), List.drop_eq_nil_of_le (by omega : X.length ≤ hi), List.take_of_length_le (by rw [h.1]; omega), List.take_of_length_le (by rw [h.1]; omega)]
    simp
theorem ML.done (h : ML X B w lo) (hlo : X.length ≤ lo) : B = mpass ele w X := by
  have := h.2
  rw [List.drop_eq_nil_of_le hlo, mpass_nil, List.append_nil, List.take_of_length_le (by rw [h.1]; exact hlo)] at this
  exact this
end
/-- where the sort stands between two passes -/
structure MS (X0 X : List En) (w : Nat) : Prop where
  perm : X.Perm X0
  blocks : Blocks ele w X
theorem MS.start (X : List En) : MS X X 1 := ⟨List.Perm.refl _, blocks_one ele X⟩
theorem MS.pass {X0 X : List En} {w : Nat} (h : MS X0 X w) (hw : 0 < w) : MS X0 (mpass ele w X) (2 * w) :=
  ⟨(mpass_perm ele w _ X (Nat.le_refl _)).trans h.perm, mpass_blocks ele ele_trans ele_total hw _ X (Nat.le_refl _) h.blocks⟩
theorem MS.done {X0 X : List En} {w : Nat} (h : MS X0 X w) (hw : X.length ≤ w) : X.Pairwise (fun a b => ele a b = true) := blocks_all ele h.blocks hw
end Go.Proofs.Ytbnkhpbgibgahaa.ms
