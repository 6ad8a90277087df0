/-
  Plain law of moveBeforeExport: trimming spaces from the right and asking for the suffix "export" answers what a forward search for "export" followed only by spaces finds.
  Conditions: none.
-/
import Derived.Test.YtolphikbppmobaaDoorRows
import Derived.Lib.SlTrimSet
namespace Go.Proofs.YtolphikbppmobaaDoor.mv

def cs : List UInt8 := [32, 9, 13, 10]
def ex : List UInt8 := [101, 120, 112, 111, 114, 116]
/-- "export" stands at p, and only spaces follow up to the end -/
def M (l : List UInt8) (p : Nat) : Prop := p + 6 ≤ l.length ∧ (∀ j, j < 6 → l[p + j]? = ex[j]?) ∧ ∀ j b, p + 6 ≤ j → l[j]? = some b → cs.contains b = true
theorem cut (l : List UInt8) : ∀ n, n ≤ l.length → ∃ k, k ≤ n ∧ (∀ j b, k ≤ j → j < n → l[j]? = some b → cs.contains b = true) ∧ (∀ b, 0 < k → l[k - 1]? = some b → cs.contains b = false) := by
  intro n
  induction n with
  | zero => intro _; exact ⟨0, Nat.le_refl _, fun j b h1 h2 => by omega, fun b h => by omega⟩
  | succ n ih =>
    intro hn
    obtain ⟨k, h1, h2, h3⟩ := ih (by omega)
    have hl : l[n]? = some l[n] := List.getElem?_eq_getElem (by omega)
    by_cases hc : cs.contains l[n] = true
    · refine ⟨k, by omega, fun j b hj hlt hb => ?_, h3⟩
      rcases Nat.lt_or_ge j n with hh | hh
      · exact h2 j b hj hh hb
      · obtain rfl : j = n := by omega
        rw [hl] at hb
        cases hb
        exact hc
    · refine ⟨n + 1, Nat.le_refl _, fun j b hj hlt => by omega, fun b _ hb => ?_⟩
      rw [Nat.add_sub_cancel, hl] at hb
      cases hb
      simpa using hc
/-- what trimming gives: the first k, behind which only spaces stand -/
theorem trimmed (l : List UInt8) : ∃ k, k ≤ l.length ∧ Lib.trimRightS l cs = l.take k ∧ (∀ j b, k ≤ j → l[j]? = some b → cs.contains b = true) ∧ (∀ b, 0 < k → l[k - 1]? = some b → cs.contains b = false) := by
  obtain ⟨k, h1, h2, h3⟩ := cut l l.length (Nat.le_refl _)
  have h2' : ∀ j b, k ≤ j → l[j]? = some b → cs.contains b = true := fun j b hj hb => by
    have : j < l.length := (List.getElem?_eq_some_iff.1 hb).1
    exact h2 j b hj this hb
  exact ⟨k, h1, Lib.trimRightS_take l cs k h1 h2' h3, h2', h3⟩
/-- does the text of length k end in "export"? -/
def Suf (l : List UInt8) (k : Nat) : Prop := 6 ≤ k ∧ ∀ j, j < 6 → l[k - 6 + j]? = ex[j]?
theorem found {l : List UInt8} {k : Nat} (hk : k ≤ l.length) (h1 : ∀ j b, k ≤ j → l[j]? = some b → cs.contains b = true) (hs : Suf l k) : M l (k - 6) :=
  ⟨by have := hs.1; omega, hs.2, fun j b hj hb => h1 j b (by have := hs.1; omega) hb⟩
theorem only {l : List UInt8} {k p : Nat} (hk : k ≤ l.length) (h1 : ∀ j b, k ≤ j → l[j]? = some b → cs.contains b = true) (h2 : ∀ b, 0 < k → l[k - 1]? = some b → cs.contains b = false) (hm : M l p) : Suf l k ∧ p = k - 6 := by
  obtain ⟨m1, m2, m3⟩ := hm
  have e : k = p + 6 := by
    rcases Nat.lt_trichotomy k (p + 6) with h | h | h
    · have h5 := m2 5 (by decide)
      have := h1 (p + 5) 116 (by omega) h5
      exact absurd this (by decide)
    · exact h
    · have hk1 : k - 1 < l.length := by omega
      have hb := List.getElem?_eq_getElem hk1
      have h3 := h2 _ (by omega) hb
      have h4 := m3 (k - 1) _ (by omega) hb
      rw [h3] at h4
      cases h4
  subst e
  exact ⟨⟨by omega, fun j hj => by rw [Nat.add_sub_cancel]; exact m2 j hj⟩, by omega⟩
end Go.Proofs.YtolphikbppmobaaDoor.mv
