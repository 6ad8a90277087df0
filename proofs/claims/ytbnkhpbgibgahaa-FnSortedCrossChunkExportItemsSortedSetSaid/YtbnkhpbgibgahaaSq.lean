/-
  Plain steps of the library's sort functions (Derived/Sort/Defs), one a round of their Go loops.
  Conditions: none; no program in sight.
-/
import Derived.Sort.AssemblyPlain
namespace Go.Proofs.Ytbnkhpbgibgahaa.sq
open Go.Sort

section
variable {α : Type} [Inhabited α] (lt : α → α → Bool)
theorem swp_size (d : Array α) (i j : Nat) : (swp d i j).size = d.size := by simp [swp]
-- insertionSort
theorem ins_step {a j : Nat} {d : Array α} (h1 : a < j + 1) (h2 : lt d[j + 1]! d[j]! = true) : insInner lt a (j + 1) d = insInner lt a j (swp d (j + 1) j) := by rw [insInner, if_pos (by simp [h1, h2])]
theorem ins_stop1 {a j : Nat} {d : Array α} (h : j ≤ a) : insInner lt a j d = d := by
  rcases j with _ | j
  · rfl
  · rw [insInner, if_neg (by simp; omega)]
theorem ins_stop2 {a j : Nat} {d : Array α} (h : lt d[j + 1]! d[j]! = false) : insInner lt a (j + 1) d = d := by rw [insInner, if_neg (by simp [h])]
theorem out_step {a b i : Nat} {d : Array α} (h : i < b) : insOuter lt a b i d = insOuter lt a b (i + 1) (insInner lt a i d) := by rw [insOuter, if_pos h]
theorem out_stop {a b i : Nat} {d : Array α} (h : b ≤ i) : insOuter lt a b i d = d := by rw [insOuter, if_neg (by omega)]
-- siftDown
theorem sift_end {hi first root : Nat} {d : Array α} (h : hi ≤ 2 * root + 1) : siftDown lt hi first root d = d := by rw [siftDown, dif_pos h]
theorem sift_r {hi first root : Nat} {d : Array α} (h1 : 2 * root + 2 < hi) (h2 : lt d[first + (2 * root + 1)]! d[first + (2 * root + 2)]! = true) (h3 : lt d[first + root]! d[first + (2 * root + 2)]! = true) :
    siftDown lt hi first root d = siftDown lt hi first (2 * root + 2) (swp d (first + root) (first + (2 * root + 2))) := by
  conv => lhs; rw [siftDown]
  rw [dif_neg (by omega), if_pos (by rw [Bool.and_eq_true]; exact ⟨by simpa using h1, h2⟩), if_neg (by simp [h3]), dif_pos h1]
theorem sift_rs {hi first root : Nat} {d : Array α} (h1 : 2 * root + 2 < hi) (h2 : lt d[first + (2 * root + 1)]! d[first + (2 * root + 2)]! = true) (h3 : lt d[first + root]! d[first + (2 * root + 2)]! = false) :
    siftDown lt hi first root d = d := by
  rw [siftDown, dif_neg (by omega), if_pos (by rw [Bool.and_eq_true]; exact ⟨by simpa using h1, h2⟩), if_pos (by simp [h3])]
theorem sift_l {hi first root : Nat} {d : Array α} (h0 : 2 * root + 1 < hi) (h1 : ¬ (2 * root + 2 < hi ∧ lt d[first + (2 * root + 1)]! d[first + (2 * root + 2)]! = true)) (h3 : lt d[first + root]! d[first + (2 * root + 1)]! = true) :
    siftDown lt hi first root d = siftDown lt hi first (2 * root + 1) (swp d (first + root) (first + (2 * root + 1))) := by
  conv => lhs; rw [siftDown]
  rw [dif_neg (by omega), if_neg (by rw [Bool.and_eq_true]; intro h; exact h1 ⟨by simpa using h.1, h.2⟩), if_neg (by simp [h3])]
theorem sift_ls {hi first root : Nat} {d : Array α} (h0 : 2 * root + 1 < hi) (h1 : ¬ (2 * root + 2 < hi ∧ lt d[first + (2 * root + 1)]! d[first + (2 * root + 2)]! = true)) (h3 : lt d[first + root]! d[first + (2 * root + 1)]! = false) :
    siftDown lt hi first root d = d := by
  rw [siftDown, dif_neg (by omega), if_neg (by rw [Bool.and_eq_true]; intro h; exact h1 ⟨by simpa using h.1, h.2⟩), if_pos (by simp [h3])]
-- scans
theorem up_step {p : α → Bool} {d : Array α} {i j : Nat} (h : i ≤ j) (hp : p d[i]! = true) : scanUp p d j i = scanUp p d j (i + 1) := by
  conv => lhs; rw [scanUp]
  rw [if_pos (by simp [h, hp])]
theorem up_stop {p : α → Bool} {d : Array α} {i j : Nat} (h : j < i ∨ p d[i]! = false) : scanUp p d j i = i := by
  rw [scanUp, if_neg (by rcases h with h | h <;> simp [h]; intro h2; omega)]
theorem up_le (p : α → Bool) (d : Array α) (j : Nat) (n : Nat) : ∀ i, j + 1 - i ≤ n → i ≤ scanUp p d j i := by
  induction n with
  | zero => intro i h; rw [up_stop (.inl (by omega))]; exact Nat.le_refl _
  | succ n ih =>
    intro i h
    by_cases hc : i ≤ j ∧ p d[i]! = true
    · rw [up_step hc.1 hc.2]
      have := ih (i + 1) (by omega)
      omega
    · rw [up_stop (by
        by_cases h1 : i ≤ j
        · exact .inr (by simpa using fun h2 => hc ⟨h1, h2⟩)
        · exact .inl (by omega))]
      exact Nat.le_refl _
theorem dn_step {p : α → Bool} {d : Array α} {i j : Nat} (h : i ≤ j + 1) (hp : p d[j + 1]! = true) : scanDown p d i (j + 1) = scanDown p d i j := by rw [scanDown, if_pos (by simp [h, hp])]
theorem dn_stop {p : α → Bool} {d : Array α} {i j : Nat} (h : j < i ∨ p d[j]! = false) : scanDown p d i j = j := by
  rcases j with _ | j
  · rfl
  · rw [scanDown, if_neg (by rcases h with h | h <;> simp [h]; intro h2; omega)]
theorem dn_le (p : α → Bool) (d : Array α) (i : Nat) : ∀ j, scanDown p d i j ≤ j := by
  intro j
  induction j with
  | zero => exact Nat.le_refl _
  | succ j ih =>
    rw [scanDown]
    split <;> omega
-- the partitions' loops
theorem part_end {a i j : Nat} {d : Array α} (h : scanDown (fun x => !lt x d[a]!) d (scanUp (fun x => lt x d[a]!) d j i) j < scanUp (fun x => lt x d[a]!) d j i) :
    partLoop lt a i j d = (scanDown (fun x => !lt x d[a]!) d (scanUp (fun x => lt x d[a]!) d j i) j, d) := by
  rw [partLoop]
  exact if_pos h
theorem part_go {a i j i2 j2 : Nat} {d : Array α} (hi : scanUp (fun x => lt x d[a]!) d j i = i2) (hj : scanDown (fun x => !lt x d[a]!) d i2 j = j2) (h : i2 ≤ j2) :
    partLoop lt a i j d = partLoop lt a (i2 + 1) (j2 - 1) (swp d i2 j2) := by
  have h1 := up_le (fun x => lt x d[a]!) d j _ i (Nat.le_refl _)
  have h2 := dn_le (fun x => !lt x d[a]!) d i2 j
  rw [hi] at h1
  rw [hj] at h2
  conv => lhs; rw [partLoop]
  simp only [hi, hj]
  rw [if_neg (by omega), dif_pos (by omega)]
theorem eq_end {a i j : Nat} {d : Array α} (h : scanDown (fun x => lt d[a]! x) d (scanUp (fun x => !lt d[a]! x) d j i) j < scanUp (fun x => !lt d[a]! x) d j i) :
    partEqLoop lt a i j d = (scanUp (fun x => !lt d[a]! x) d j i, d) := by
  rw [partEqLoop]
  exact if_pos h
theorem eq_go {a i j i2 j2 : Nat} {d : Array α} (hi : scanUp (fun x => !lt d[a]! x) d j i = i2) (hj : scanDown (fun x => lt d[a]! x) d i2 j = j2) (h : i2 ≤ j2) :
    partEqLoop lt a i j d = partEqLoop lt a (i2 + 1) (j2 - 1) (swp d i2 j2) := by
  have h1 := up_le (fun x => !lt d[a]! x) d j _ i (Nat.le_refl _)
  have h2 := dn_le (fun x => lt d[a]! x) d i2 j
  rw [hi] at h1
  rw [hj] at h2
  conv => lhs; rw [partEqLoop]
  simp only [hi, hj]
  rw [if_neg (by omega), dif_pos (by omega)]
-- partialInsertionSort
theorem ss_step {b i : Nat} {d : Array α} (h : i < b) (hl : lt d[i]! d[i - 1]! = false) : scanSorted lt d b i = scanSorted lt d b (i + 1) := by
  conv => lhs; rw [scanSorted]
  rw [if_pos (by simp [h, hl])]
theorem ss_stop {b i : Nat} {d : Array α} (h : b ≤ i ∨ lt d[i]! d[i - 1]! = true) : scanSorted lt d b i = i := by
  rw [scanSorted, if_neg (by rcases h with h | h <;> simp [h]; intro h2; omega)]
theorem sd_step {j : Nat} {d : Array α} (hl : lt d[j + 1]! d[j]! = true) : shiftDown lt (j + 1) d = shiftDown lt j (swp d (j + 1) j) := by rw [shiftDown, if_neg (by simp [hl])]
theorem sd_stop {j : Nat} {d : Array α} (hl : lt d[j + 1]! d[j]! = false) : shiftDown lt (j + 1) d = d := by rw [shiftDown, if_pos (by simp [hl])]
theorem su_step {b j : Nat} {d : Array α} (h : j < b) (hl : lt d[j]! d[j - 1]! = true) : shiftUp lt b j d = shiftUp lt b (j + 1) (swp d j (j - 1)) := by
  conv => lhs; rw [shiftUp]
  rw [if_pos h, if_neg (by simp [hl])]
theorem su_stop {b j : Nat} {d : Array α} (h : b ≤ j ∨ lt d[j]! d[j - 1]! = false) : shiftUp lt b j d = d := by
  rw [shiftUp]
  rcases h with h | h
  · rw [if_neg (by omega)]
  · by_cases hj : j < b
    · rw [if_pos hj, if_pos (by simp [h])]
    · rw [if_neg hj]
-- reverseRange
theorem rv_step {i j : Nat} {d : Array α} (h : i < j) : reverseLoop i j d = reverseLoop (i + 1) (j - 1) (swp d i j) := by
  conv => lhs; rw [reverseLoop]
  rw [if_pos h]
theorem rv_stop {i j : Nat} {d : Array α} (h : j ≤ i) : reverseLoop i j d = d := by rw [reverseLoop, if_neg (by omega)]
end
end Go.Proofs.Ytbnkhpbgibgahaa.sq
