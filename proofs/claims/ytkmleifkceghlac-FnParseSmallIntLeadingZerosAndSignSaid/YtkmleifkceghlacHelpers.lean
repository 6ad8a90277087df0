/-
  Contracts of zzAllDigits and zzSigLen over this seat's program, and the plain facts on digits that go with them.
  Conditions: the slice is readable and at most 4096 long.
-/
import Derived.Test.YtkmleifkceghlacPlain
import Derived.Test.YtkmleifkceghlacBlk
import Derived.LoopTactic
namespace Go.Proofs.Ytkmleifkceghlac.helpers
open Go.ChangeShapes Go.WideShapes Go.ChangeAt Go.RowKit
open kit plain

def digB (l : List Int) : Bool := l.all fun x => decide (48 ≤ x ∧ x ≤ 57)
theorem digB_iff (l : List Int) : digB l = true ↔ Digits l := by simp [digB, Digits]
theorem digB_false {l : List Int} {k : Nat} (hk : k < l.length) (h : l.getD k 0 < 48 ∨ 57 < l.getD k 0) : digB l = false := by
  rw [← Bool.not_eq_true, digB_iff]
  intro hd
  have := hd (l.getD k 0) (by simp [hk])
  omega
theorem digB_true {l : List Int} (h : ∀ j, j < l.length → 48 ≤ l.getD j 0 ∧ l.getD j 0 ≤ 57) : digB l = true := by
  rw [digB_iff]
  intro x hx
  obtain ⟨i, hi, rfl⟩ := List.getElem_of_mem hx
  have := h i hi
  simpa [hi] using this

/-- how many zeros lead -/
def lead (l : List Int) : Nat := (l.takeWhile (· == 48)).length
theorem lead_le (l : List Int) : lead l ≤ l.length := (List.takeWhile_sublist _).length_le
theorem lead_zero {l : List Int} {j : Nat} (h : j < lead l) : l.getD j 0 = 48 := by
  induction l generalizing j with
  | nil => simp [lead] at h
  | cons x r ih =>
    by_cases hx : x = 48
    · subst hx
      cases j with
      | zero => simp
      | succ j => simp [lead] at h ih ⊢; exact ih h
    · simp [lead, hx] at h
theorem lead_stop {l : List Int} (h : lead l < l.length) : l.getD (lead l) 0 ≠ 48 := by
  induction l with
  | nil => simp at h
  | cons x r ih =>
    by_cases hx : x = 48
    · subst hx
      simp [lead] at h ih ⊢; exact ih h
    · simp [lead, hx]
theorem split (l : List Int) : l = List.replicate (lead l) 48 ++ l.drop (lead l) := by
  induction l with
  | nil => simp [lead]
  | cons x r ih =>
    by_cases hx : x = 48
    · subst hx
      simp only [lead, List.takeWhile_cons, beq_self_eq_true, if_true, List.length_cons, List.replicate_succ, List.cons_append, List.drop_succ_cons]
      exact congrArg (List.cons 48) ih
    · simp [lead, hx]
theorem dec_lt (l : List Int) (h : Digits l) : dec l ≤ 10 ^ l.length - 1 := by
  induction l with
  | nil => simp [dec]
  | cons x r ih =>
    rw [dec_cons]
    have h1 := h x (by simp)
    have h2 := ih (fun y hy => h y (by simp [hy]))
    have h3 : (x - 48) * 10 ^ r.length ≤ 9 * 10 ^ r.length := Int.mul_le_mul_of_nonneg_right (by omega) (Int.pow_nonneg (by omega))
    rw [List.length_cons, Int.pow_succ]
    omega
theorem dec_small (l : List Int) (h : Digits l) (hs : l.length - lead l ≤ 9) : dec l ≤ 999999999 := by
  have e := split l
  rw [e, dec_zeros]
  have hd : Digits (l.drop (lead l)) := fun x hx => h x (List.mem_of_mem_drop hx)
  have h1 := dec_lt _ hd
  have h2 : (l.drop (lead l)).length ≤ 9 := by simpa using hs
  have h3 : (10 : Int) ^ (l.drop (lead l)).length ≤ 10 ^ 9 := by
    have := Nat.pow_le_pow_right (show 0 < 10 by decide) h2
    exact_mod_cast this
  omega

theorem allDigits (A : Option Addr) (n cap : Nat) (xs : List Int) (w : World) (hr : Row w A n cap (xs.map (Value.int .u8))) (hn : n ≤ 4096) :
    Calls Try.prog 8 #[.slice A n cap] w fun e w' => e = .returned (.bool (digB xs)) ∧ w = w' := by
  have hlen : xs.length = n := by simpa using hr.1
  have HR := Lib.hid hr
  have HL := Lib.hid hlen
  clear hr hlen
  go_enter Try.func8, Try.ntmps8
  go_wp2
  go_loop [3] (fun t => ∃ k : Nat, k ≤ n ∧ t = .int .i64 k ∧ Hid (∀ j, j < k → 48 ≤ xs.getD j 0 ∧ xs.getD j 0 ≤ 57)) (fun t => n - (intOf t).toNat)
  case atStart => exact ⟨0, by omega, rfl, fun j hj => absurd hj (by omega)⟩
  case round =>
    obtain ⟨k, hk, rfl, hall⟩ := hrel
    by_cases hlt : k < n
    · obtain ⟨b, off, hA, hbl, hcell⟩ := HR.out.2.2.2.2 (by omega)
      subst hA
      have hkx : k < xs.length := by rw [HL.out]; exact hlt
      have hck : w.cell? ⟨b, off + k, none⟩ = some (.int .u8 (xs.getD k 0)) := by
        have := hcell k (by simpa using hkx)
        rw [this]; simp [hkx]
      clear hcell hbl
      by_cases h1 : xs.getD k 0 < 48
      · have HF := Lib.hid (digB_false hkx (.inl h1))
        generalize xs.getD k 0 = x at *
        go_wp2
        go_ret
        exact ⟨by rw [HF.out]; rfl, rfl⟩
      · by_cases h2 : 57 < xs.getD k 0
        · have HF := Lib.hid (digB_false hkx (.inr h2))
          generalize xs.getD k 0 = x at *
          go_wp2
          go_ret
          exact ⟨by rw [HF.out]; rfl, rfl⟩
        · have HN : Hid (∀ j, j < k + 1 → 48 ≤ xs.getD j 0 ∧ xs.getD j 0 ≤ 57) := fun j hj => by
            rcases Nat.lt_or_ge j k with hjk | hjk
            · exact hall.out j hjk
            · obtain rfl : j = k := by omega
              omega
          generalize xs.getD k 0 = x at *
          go_wp2
          go_round
          case rel => exact ⟨k + 1, by omega, by go_num, HN⟩
          case measure => simp [intOf]; omega
    · obtain rfl : k = n := by omega
      have HF := Lib.hid (digB_true (l := xs) (fun j hj => hall.out j (by rw [HL.out] at hj; exact hj)))
      go_wp2
      go_ret
      exact ⟨by rw [HF.out]; rfl, rfl⟩

theorem sigLen (A : Option Addr) (n cap : Nat) (xs : List Int) (w : World) (hr : Row w A n cap (xs.map (Value.int .u8))) (hn : n ≤ 4096) :
    Calls Try.prog 9 #[.slice A n cap] w fun e w' => e = .returned (.int .i64 ((n - lead xs : Nat) : Int)) ∧ w = w' := by
  have hlen : xs.length = n := by simpa using hr.1
  have hle : lead xs ≤ n := by rw [← hlen]; exact lead_le xs
  have HR := Lib.hid hr
  have HL := Lib.hid hlen
  clear hr hlen
  go_enter Try.func9, Try.ntmps9
  go_wp2
  go_loop [3] (fun t => ∃ k : Nat, k ≤ lead xs ∧ t = .int .i64 k) (fun t => n - (intOf t).toNat)
  case atStart => exact ⟨0, by omega, rfl⟩
  case round =>
    obtain ⟨k, hk, rfl⟩ := hrel
    by_cases hlt : k < n
    · obtain ⟨b, off, hA, hbl, hcell⟩ := HR.out.2.2.2.2 (by omega)
      subst hA
      have hkx : k < xs.length := by rw [HL.out]; exact hlt
      have hck : w.cell? ⟨b, off + k, none⟩ = some (.int .u8 (xs.getD k 0)) := by
        have := hcell k (by simpa using hkx)
        rw [this]; simp [hkx]
      clear hcell hbl
      by_cases h1 : k < lead xs
      · have e1 : (xs.getD k 0 == 48) = true := beq_iff_eq.2 (lead_zero h1)
        generalize xs.getD k 0 = x at *
        go_wp2
        go_round
        case rel => exact ⟨k + 1, by omega, by go_num⟩
        case measure => simp [intOf]; omega
      · obtain rfl : k = lead xs := by omega
        have e1 : (xs.getD (lead xs) 0 == 48) = false := beq_eq_false_iff_ne.2 (lead_stop hkx)
        generalize xs.getD (lead xs) 0 = x at *
        go_wp2
        go_ret
        exact ⟨by go_num, rfl⟩
    · obtain rfl : k = n := by omega
      obtain rfl : lead xs = k := by omega
      have e1 : decide ((lead xs : Int) < (lead xs : Int)) = false := by simp
      go_wp2
      go_ret
      exact ⟨by simp, rfl⟩
end Go.Proofs.Ytkmleifkceghlac.helpers
