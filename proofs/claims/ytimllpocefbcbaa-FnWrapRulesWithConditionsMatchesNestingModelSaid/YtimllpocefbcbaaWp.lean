/-
  The plain law: the wrappers that the linker lays are, from the outside in, the kinds read backwards from the place where the block first becomes non-empty.
  Conditions: none.
-/
import Derived.Test.YtimllpocefbcbaaWc
namespace Go.Proofs.Ytimllpocefbcbaa.wr
open Go.ChangeShapes Go.WideShapes Go.ChangeAt Go.RowKit
open kit

abbrev It := ByteArray × Bool
def items (c : Cnd) : List It := c.L.map (fun b => (lyr, b)) ++ List.replicate c.s.toNat (sup, false)
/-- the wrappers in the order in which they are read, of the conditions from the last down to the k-th -/
def its (F : Cs) (k : Nat) : List It := (F.drop k).foldr (fun c l => l ++ items c) []
theorem its_step (F : Cs) {k : Nat} (hk : k < F.length) : its F k = its F (k + 1) ++ items (at_ F k) := by
  unfold its at_
  rw [List.drop_eq_getElem_cons hk, List.foldr_cons]
  simp [hk]
theorem its_end (F : Cs) : its F F.length = [] := by unfold its; simp
def step (n : Nat) (l : List ByteArray) (x : It) : List ByteArray := if top n l = 0 ∧ x.2 = false then l else x.1 :: l
theorem fold_items (n : Nat) (l : List ByteArray) (c : Cnd) : (items c).foldl (step n) l = cond n l c := by
  have hs : ∀ (k : Nat) (l : List ByteArray), (List.replicate k ((sup, false) : It)).foldl (step n) l = sups n l k := by
    intro k
    induction k with
    | zero => intro l; rfl
    | succ k ih =>
      intro l
      rw [List.replicate_succ', List.foldl_append, ih]
      show step n (sups n l k) (sup, false) = stepS n (sups n l k)
      unfold step stepS
      simp
  have hl : ∀ (bs : List Bool) (l : List ByteArray), (bs.map (fun b => ((lyr, b) : It))).foldl (step n) l = layers n l bs := by
    intro bs
    induction bs with
    | nil => intro l; rfl
    | cons b r ih => intro l; exact ih _
  unfold items cond
  rw [List.foldl_append, hl, hs]
theorem down_eq (n : Nat) (F : Cs) : ∀ m k, k + m = F.length → (its F k).foldl (step n) [] = down n F k := by
  intro m
  induction m with
  | zero =>
    intro k hk
    obtain rfl : k = F.length := by omega
    rw [its_end, down_end]; rfl
  | succ m ih =>
    intro k hk
    rw [its_step F (by omega), down_step n F (by omega), List.foldl_append, ih (k + 1) (by omega), fold_items]
/-- the place where the block first becomes non-empty -/
def start (n : Nat) (l : List It) : Option Nat := if 0 < n then some 0 else l.findIdx? (·.2)
theorem fold_on (n : Nat) : ∀ (l : List It) (a : List ByteArray), top n a ≠ 0 → l.foldl (step n) a = (l.map (·.1)).reverse ++ a := by
  intro l
  induction l with
  | nil => intro a _; rfl
  | cons x r ih =>
    intro a ha
    rw [List.foldl_cons, show step n a x = x.1 :: a by unfold step; rw [if_neg (fun h => ha h.1)], ih _ (by simp [top])]
    simp
theorem fold_all (n : Nat) (l : List It) (hn : 0 < n) : l.foldl (step n) [] = (l.map (·.1)).reverse := by
  rw [fold_on n l [] (by simp [top]; omega)]; simp
theorem fold_zero : ∀ (l : List It), l.foldl (step 0) [] = match l.findIdx? (·.2) with | some i => ((l.map (·.1)).drop i).reverse | none => [] := by
  intro l
  induction l with
  | nil => rfl
  | cons x r ih =>
    rw [List.foldl_cons, List.findIdx?_cons]
    cases hx : x.2
    · rw [show step 0 [] x = [] by unfold step; rw [if_pos ⟨rfl, hx⟩], ih]
      cases h : r.findIdx? (·.2) <;> simp
    · rw [show step 0 [] x = [x.1] by unfold step; rw [if_neg (by simp [hx])], fold_on 0 r [x.1] (by simp [top])]
      simp
/-- what the law's search for the start finds: k items have been passed over -/
theorem nest (n : Nat) (F : Cs) (s : Nat) (h1 : 0 < n → s = 0) (h2 : n = 0 → s < (its F 0).length ∧ ((its F 0).getD s default).2 = true ∧ ∀ i, i < s → ((its F 0).getD i default).2 = false) : down n F 0 = (((its F 0).map (·.1)).drop s).reverse := by
  rw [← down_eq n F F.length 0 (by omega)]
  by_cases hn : 0 < n
  · rw [h1 hn, fold_all n _ hn, List.drop_zero]
  · obtain rfl : n = 0 := by omega
    obtain ⟨g1, g2, g3⟩ := h2 rfl
    rw [fold_zero]
    have : (its F 0).findIdx? (·.2) = some s := by
      rw [List.findIdx?_eq_some_iff_getElem]
      refine ⟨g1, by simpa [g1] using g2, fun j hj => ?_⟩
      have := g3 j hj
      have hj2 : j < (its F 0).length := by omega
      simpa [hj2] using this
    rw [this]
theorem nest_none (F : Cs) (h : ∀ i, i < (its F 0).length → ((its F 0).getD i default).2 = false) : down 0 F 0 = [] := by
  rw [← down_eq 0 F F.length 0 (by omega), fold_zero]
  have : (its F 0).findIdx? (·.2) = none := by
    rw [List.findIdx?_eq_none_iff]
    intro x hx
    obtain ⟨i, hi, rfl⟩ := List.mem_iff_getElem.1 hx
    simpa [hi] using h i hi
  rw [this]
end Go.Proofs.Ytimllpocefbcbaa.wr
