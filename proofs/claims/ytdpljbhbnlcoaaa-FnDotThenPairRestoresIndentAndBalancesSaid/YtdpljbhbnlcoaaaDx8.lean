/-
  FnDotThenPairRestoresIndentAndBalances over this seat's program: the plain law of the two wrappers, and the whole walk.
  Conditions: none.
-/
import Derived.Test.YtdpljbhbnlcoaaaDx7
namespace Go.Proofs.Ytdpljbhbnlcoaaa.dx
open Go.ChangeShapes Go.WideShapes Go.ChangeAt Go.RowKit
open kit pr

/-! ### the wrappers' brackets -/
def Neu (c : Int) : Prop := c ≠ 34 ∧ c ≠ 39 ∧ c ≠ 96 ∧ c ≠ 40 ∧ c ≠ 91 ∧ c ≠ 123 ∧ c ≠ 41 ∧ c ≠ 93 ∧ c ≠ 125
theorem Bal.append {S S1 S2 a b : List Int} (h : Bal S a S1) (k : Bal S1 b S2) : Bal S (a ++ b) S2 := by
  induction a generalizing S with
  | nil => have e : S = S1 := h; subst e; exact k
  | cons c r ih => obtain ⟨T, h1, h2⟩ := h; exact ⟨T, h1, ih h2⟩
theorem Bal.neu {S l : List Int} (h : ∀ c ∈ l, Neu c) : Bal S l S := by
  induction l with
  | nil => rfl
  | cons c r ih => exact ⟨S, .inr (.inr ⟨rfl, h c List.mem_cons_self⟩), ih (fun c hc => h c (List.mem_cons_of_mem _ hc))⟩
theorem Bal.op (S : List Int) {c : Int} (h : c = 40 ∨ c = 91 ∨ c = 123) : Bal S [c] (S ++ [c]) := ⟨_, .inl ⟨h, rfl⟩, rfl⟩
theorem Bal.cl (S : List Int) {o c : Int} (h : (c = 41 ∧ o = 40) ∨ (c = 93 ∧ o = 91) ∨ (c = 125 ∧ o = 123)) : Bal (S ++ [o]) [c] S := ⟨_, .inr (.inl ⟨o, rfl, h⟩), rfl⟩
instance (c : Int) : Decidable (Neu c) := by unfold Neu; infer_instance
theorem neu_sp (mw : Bool) : ∀ c ∈ sp mw, Neu c := by cases mw <;> decide
theorem neu_nl (mw : Bool) : ∀ c ∈ nl mw, Neu c := by cases mw <;> decide
theorem neu_semi (mw : Bool) : ∀ c ∈ semi mw, Neu c := by cases mw <;> decide
theorem neu_inds (mw : Bool) (m : Nat) : ∀ c ∈ inds mw m, Neu c := by
  cases mw
  · intro c hc
    have : c = 32 := List.eq_of_mem_replicate (by simpa [inds, spc] using hc : c ∈ List.replicate (2 * m) 32)
    subst this
    decide
  · intro c hc
    simp [inds] at hc
theorem bal_pair (na mw : Bool) (m : Nat) : Bal [] (preL na mw m ++ sufL na mw m) [] := by
  cases na
  · have e : preL false mw m ++ sufL false mw m = [46, 116, 104, 101, 110] ++ ([40] ++ ([40] ++ ([41] ++ (sp mw ++ ([61, 62] ++ (sp mw ++ [41])))))) := by simp [preL, sufL]
    rw [e]
    refine (Bal.neu (by decide)).append ((Bal.op [] (by decide)).append ((Bal.op [40] (by decide)).append ((Bal.cl [40] (by decide)).append ((Bal.neu (neu_sp mw)).append ((Bal.neu (by decide)).append ((Bal.neu (neu_sp mw)).append (Bal.cl [] (by decide))))))))
  · have e : preL true mw m ++ sufL true mw m = [46, 116, 104, 101, 110] ++ ([40] ++ ([102, 117, 110, 99, 116, 105, 111, 110] ++ ([40] ++ ([41] ++ (sp mw ++ ([123] ++ (nl mw ++ (inds mw (m + 1) ++ ([114, 101, 116, 117, 114, 110] ++ (sp mw ++ (semi mw ++ (nl mw ++ (inds mw m ++ ([125] ++ [41])))))))))))))) := by simp [preL, sufL]
    rw [e]
    exact (Bal.neu (by decide)).append ((Bal.op [] (by decide)).append ((Bal.neu (by decide)).append ((Bal.op [40] (by decide)).append ((Bal.cl [40] (by decide)).append ((Bal.neu (neu_sp mw)).append ((Bal.op [40] (by decide)).append ((Bal.neu (neu_nl mw)).append ((Bal.neu (neu_inds mw _)).append ((Bal.neu (by decide)).append ((Bal.neu (neu_sp mw)).append ((Bal.neu (neu_semi mw)).append ((Bal.neu (neu_nl mw)).append ((Bal.neu (neu_inds mw _)).append ((Bal.cl [40] (by decide)).append (Bal.cl [] (by decide))))))))))))))))
theorem tight (na : Bool) (m : Nat) : ∀ c ∈ preL na true m ++ sufL na true m, c ≠ 32 ∧ c ≠ 10 := by
  cases na
  · have e : preL false true m ++ sufL false true m = [46, 116, 104, 101, 110, 40, 40, 41, 61, 62, 41] := by simp [preL, sufL, sp]
    rw [e]; decide
  · have e : preL true true m ++ sufL true true m = [46, 116, 104, 101, 110, 40, 102, 117, 110, 99, 116, 105, 111, 110, 40, 41, 123, 114, 101, 116, 117, 114, 110, 125, 41] := by simp [preL, sufL, sp, nl, inds, semi]
    rw [e]; decide
theorem pair_pos (na mw : Bool) (m : Nat) : 0 < (preL na mw m ++ sufL na mw m).length := by
  cases na <;> simp [preL, sufL]
/-- a stretch of a list -/
theorem getD_mid {P X Y : List Int} {j : Nat} (h : j < X.length) : (P ++ X ++ Y).getD (P.length + j) 0 = X.getD j 0 := by
  simp only [List.getD_eq_getElem?_getD, List.append_assoc]
  rw [List.getElem?_append_right (by omega), Nat.add_sub_cancel_left, List.getElem?_append_left h]
end Go.Proofs.Ytdpljbhbnlcoaaa.dx
