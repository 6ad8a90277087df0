/-
  Plain facts on decimal digits: the value of a digit list. No program in sight.
  Conditions: none.
-/
import Derived.Test.YtgoffcpchgepeaaKit
namespace Go.Proofs.Ytgoffcpchgepeaa.plain

/-- the number that a list of ASCII digits spells -/
def dec (l : List Int) : Int := l.foldl (fun n c => n * 10 + (c - 48)) 0
def Digits (l : List Int) : Prop := ∀ x ∈ l, 48 ≤ x ∧ x ≤ 57

theorem dec_nil : dec [] = 0 := rfl
theorem dec_snoc (l : List Int) (c : Int) : dec (l ++ [c]) = dec l * 10 + (c - 48) := by simp [dec]
theorem foldl_shift (l : List Int) (a : Int) : l.foldl (fun n c => n * 10 + (c - 48)) a = a * 10 ^ l.length + dec l := by
  induction l generalizing a with
  | nil => simp [dec]
  | cons x r ih =>
    simp only [List.foldl_cons, List.length_cons, dec]
    rw [ih, ih (0 * 10 + (x - 48))]
    rw [Int.pow_succ]
    simp only [Int.add_mul, Int.mul_assoc]
    have : (10 : Int) * 10 ^ r.length = 10 ^ r.length * 10 := Int.mul_comm _ _
    rw [this]; omega
theorem dec_cons (x : Int) (l : List Int) : dec (x :: l) = (x - 48) * 10 ^ l.length + dec l := by
  show (x :: l).foldl _ 0 = _
  rw [List.foldl_cons, foldl_shift]
  simp
theorem dec_nonneg (l : List Int) (h : Digits l) : 0 ≤ dec l := by
  induction l with
  | nil => simp [dec]
  | cons x r ih =>
    rw [dec_cons]
    have h1 := h x (by simp)
    have h2 := ih (fun y hy => h y (by simp [hy]))
    have h3 : 0 ≤ (x - 48) * 10 ^ r.length := Int.mul_nonneg (by omega) (Int.pow_nonneg (by omega))
    omega
theorem dec_append (l r : List Int) : dec (l ++ r) = dec l * 10 ^ r.length + dec r := by
  unfold dec; rw [List.foldl_append, foldl_shift]; rfl
theorem dec_zeros (n : Nat) (l : List Int) : dec (List.replicate n 48 ++ l) = dec l := by
  induction n with
  | zero => simp
  | succ n ih => rw [List.replicate_succ, List.cons_append, dec_cons, ih]; simp
/-- an initial part spells no more than the whole -/
theorem dec_take_le (l : List Int) (k : Nat) (h : Digits l) : dec (l.take k) ≤ dec l := by
  have e : l = l.take k ++ l.drop k := (List.take_append_drop k l).symm
  have h1 : 0 ≤ dec (l.take k) := dec_nonneg _ (fun x hx => h x (List.mem_of_mem_take hx))
  have h2 : 0 ≤ dec (l.drop k) := dec_nonneg _ (fun x hx => h x (List.mem_of_mem_drop hx))
  have h3 := dec_append (l.take k) (l.drop k)
  rw [← e] at h3
  have h4 : (1 : Int) ≤ 10 ^ (l.drop k).length := by
    have : (0 : Int) < 10 ^ (l.drop k).length := Int.pow_pos (by omega)
    omega
  have h5 : dec (l.take k) * 1 ≤ dec (l.take k) * 10 ^ (l.drop k).length := Int.mul_le_mul_of_nonneg_left h4 h1
  omega
theorem take_snoc (l : List Int) (k : Nat) (h : k < l.length) : l.take (k + 1) = l.take k ++ [l.getD k 0] := by
  rw [List.take_succ_eq_append_getElem h]; simp [List.getD, h]
end Go.Proofs.Ytgoffcpchgepeaa.plain
