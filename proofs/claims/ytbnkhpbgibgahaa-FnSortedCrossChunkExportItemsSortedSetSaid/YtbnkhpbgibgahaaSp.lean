/-
  The quicksort's loop in plain terms: from the range that is left to the whole, in continuation form.
  Conditions: none; no program in sight.
-/
import Derived.Test.YtbnkhpbgibgahaaMi
import Derived.Test.YtbnkhpbgibgahaaSq
namespace Go.Proofs.Ytbnkhpbgibgahaa.sq
open Go.Sort ms

theorem swo : SWO klt where
  irrefl := fun x => by rw [← Bool.not_eq_true, klt_iff]; omega
  trans := fun x y z h g => by rw [klt_iff] at *; omega
  ntrans := fun x y z h g => by
    rw [← Bool.not_eq_true, klt_iff] at *
    omega
/-- [a, b) is left to be sorted in d; whatever sorted permutation of it comes, the whole is one -/
structure Pd (a0 b0 : Nat) (d0 : Array En) (a b : Nat) (d : Array En) : Prop where
  lo : a0 ≤ a
  ab : a ≤ b
  hi : b ≤ b0
  hb : b0 ≤ d0.size
  sz : d.size = d0.size
  below : Below klt a b d
  fin : ∀ R, PermIn a b d R → SortedIn klt a b R → PermIn a0 b0 d0 R ∧ SortedIn klt a0 b0 R
section
variable {a0 b0 a b : Nat} {d0 d : Array En}
theorem Pd.start (h : Below klt a0 b0 d0) (hab : a0 ≤ b0) (hb : b0 ≤ d0.size) : Pd a0 b0 d0 a0 b0 d0 := ⟨Nat.le_refl _, hab, Nat.le_refl _, hb, rfl, h, fun _ h1 h2 => ⟨h1, h2⟩⟩
theorem Pd.bs (h : Pd a0 b0 d0 a b d) : b ≤ d.size := by have := h.hb; have := h.hi; have := h.sz; omega
theorem Pd.perm (h : Pd a0 b0 d0 a b d) {d1 : Array En} (hp : PermIn a b d d1) : Pd a0 b0 d0 a b d1 :=
  ⟨h.lo, h.ab, h.hi, h.hb, hp.1.trans h.sz, h.below.perm h.bs hp, fun R h1 h2 => h.fin R (permIn_trans _ _ _ a b hp h1) h2⟩
theorem Pd.eq_ (h : Pd a0 b0 d0 a b d) {pivot mid : Nat} {d4 : Array En} (ha : 0 < a) (hp1 : a ≤ pivot) (hp2 : pivot < b) (hnl : klt d[a - 1]! d[pivot]! = false) (hx : partitionEqual klt d a b pivot = (mid, d4)) :
    a < mid ∧ Pd a0 b0 d0 mid b d4 := by
  obtain ⟨h1, h2, h3, h4, h5⟩ := round_eq swo (partitionEqual_holds klt) ha hp1 hp2 h.bs h.below hnl hx
  exact ⟨h1, ⟨by have := h.lo; omega, h2, h.hi, h.hb, h3.trans h.sz, h4, fun R r1 r2 => by
    obtain ⟨q1, q2⟩ := h5 R r1 r2
    exact h.fin R q1 q2⟩⟩
theorem Pd.part (h : Pd a0 b0 d0 a b d) {pivot mid : Nat} {ap : Bool} {d4 : Array En} (hp1 : a ≤ pivot) (hp2 : pivot < b) (hx : partition klt d a b pivot = (mid, ap, d4)) :
    a ≤ mid ∧ mid < b ∧ d4.size = d.size ∧ Below klt a mid d4 ∧ Below klt (mid + 1) b d4 ∧
    (∀ L, PermIn a mid d4 L → SortedIn klt a mid L → Pd a0 b0 d0 (mid + 1) b L) ∧ (∀ L, PermIn (mid + 1) b d4 L → SortedIn klt (mid + 1) b L → Pd a0 b0 d0 a mid L) := by
  obtain ⟨h1, h2, h3, h4, h5, h6, h7⟩ := round_part swo (partition_holds klt) hp1 hp2 h.bs h.below hx
  refine ⟨h1, h2, h3, h4, h5, fun L l1 l2 => ?_, fun L l1 l2 => ?_⟩
  · obtain ⟨q1, q2⟩ := h6 L l1 l2
    exact ⟨by have := h.lo; omega, by omega, h.hi, h.hb, l1.1.trans (h3.trans h.sz), q1, fun R r1 r2 => by
      obtain ⟨s1, s2⟩ := q2 R r1 r2
      exact h.fin R s1 s2⟩
  · obtain ⟨q1, q2⟩ := h7 L l1 l2
    exact ⟨h.lo, h1, by have := h.hi; omega, h.hb, l1.1.trans (h3.trans h.sz), q1, fun R r1 r2 => by
      obtain ⟨s1, s2⟩ := q2 R r1 r2
      exact h.fin R s1 s2⟩
end
end Go.Proofs.Ytbnkhpbgibgahaa.sq
