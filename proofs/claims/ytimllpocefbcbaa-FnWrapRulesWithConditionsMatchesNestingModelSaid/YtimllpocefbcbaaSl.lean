/-
  A slice of structs told by what lies at each element's place (Sl), kept, opened out of an argument.
  Conditions: none.
-/
import Derived.Test.YtimllpocefbcbaaOpen
namespace Go.Proofs.Ytimllpocefbcbaa.kit
open Go.ChangeShapes Go.WideShapes Go.ChangeAt Go.RowKit

/-- v is a slice of n elements of that many cells; Q tells of each what lies at its place -/
def Sl (w : World) (v : Value) (n size : Nat) (Q : Nat → Nat → Nat → Prop) : Prop :=
  ∃ a c, v = .slice a n c ∧ n ≤ c ∧ c ≤ maxLen ∧ (a = none → c = 0) ∧ (0 < n → ∃ b off, a = some ⟨b, off, none⟩ ∧ b < w.heap.size ∧ ∀ i, i < n → Q b (off + i * size) i)
section
variable {w w2 : World} {v : Value} {n size : Nat} {Q Q2 : Nat → Nat → Nat → Prop}
theorem Sl.mono (h : Sl w v n size Q) (hs : w.heap.size ≤ w2.heap.size) (hq : ∀ b o i, i < n → Q b o i → Q2 b o i) : Sl w2 v n size Q2 := by
  obtain ⟨a, c, h1, h2, h3, h4, h5⟩ := h
  refine ⟨a, c, h1, h2, h3, h4, fun hn => ?_⟩
  obtain ⟨b, off, e, hb, h6⟩ := h5 hn
  exact ⟨b, off, e, Nat.lt_of_lt_of_le hb hs, fun i hi => hq _ _ _ hi (h6 i hi)⟩
theorem Sl.len (h : Sl w v n size Q) : ∃ a c, v = .slice a n c ∧ n ≤ c ∧ c ≤ 9223372036854775807 ∧ (a = none → n = 0) := by
  obtain ⟨a, c, h1, h2, h3, h4, _⟩ := h
  unfold maxLen at h3
  exact ⟨a, c, h1, h2, by omega, fun e => by have := h4 e; omega⟩
theorem Sl.at_ {a : Option Addr} {m c : Nat} (h : Sl w (.slice a m c) n size Q) {k : Nat} (hk : k < n) : ∃ b off, a = some ⟨b, off, none⟩ ∧ b < w.heap.size ∧ Q b (off + k * size) k := by
  obtain ⟨a', c', h1, _, _, _, h5⟩ := h
  injection h1 with e1 _ _
  subst e1
  obtain ⟨b, off, e, hb, h6⟩ := h5 (by omega)
  exact ⟨b, off, e, hb, h6 k hk⟩
theorem Sl.nil (w : World) (size : Nat) (Q : Nat → Nat → Nat → Prop) : Sl w (.slice none 0 0) 0 size Q := ⟨none, 0, rfl, Nat.le_refl _, Nat.zero_le _, fun _ => rfl, fun h => absurd h (by omega)⟩
end

section
variable {H : Type} {enc : TypeId × Value → H} {W : World}
/-- a slice in a cell, its elements each by what they are -/
theorem open_sl {t e size m : Nat} {v : Value} {x : DataW H × List MemPlace} {α : Type} [Inhabited α] (d : α) (Q : Nat → Nat → α → Prop) (ht : Try.prog.underlying t = some (.slice e)) (hc : Try.prog.cellsOf e = size) (hs : 0 < size)
    (each : ∀ (b o : Nat) (cs : List Value) (m : Nat) (x : DataW H × List MemPlace), cs.length = size → (∀ j, j < size → W.cell? ⟨b, o + j, none⟩ = cs[j]?) → DataW.trod enc Try.prog W 0 (fun _ => true) true m e cs = some x → ∃ y, Q b o y)
    (h : DataW.trod enc Try.prog W 0 (fun _ => true) true m t [v] = some x) : ∃ R : List α, Sl W v R.length size (fun b o i => Q b o (R.getD i d)) := by
  have hv : ∃ a len cap, v = .slice a len cap := by
    rcases Go.Deep.open_slice ht h with ⟨hcs, _⟩ | ⟨y, l, c, _, _, _, _, hcs, _⟩
    · exact ⟨none, 0, 0, by simpa using hcs⟩
    · exact ⟨some y, l, c, by simpa using hcs⟩
  obtain ⟨a, len, cap, rfl⟩ := hv
  obtain ⟨hl, hm, hn, hx⟩ := open_elems ht hc hs (d := x.1) (p := x.2) ⟨m, by simpa [Value.cells] using h⟩
  by_cases hpos : 0 < cap
  · obtain ⟨b, off, ha, hb, hx⟩ := hx hpos
    have each2 : ∀ i, i < cap → ∃ y : α, Q b (off + i * size) y := fun i hi => by
      obtain ⟨cs, m, x, h1, h2, h3⟩ := hx i hi
      exact each _ _ _ _ _ h1 h2 h3
    obtain ⟨f, hf⟩ := Go.Deep.choose_lt each2
    refine ⟨(List.range len).map f, a, cap, by simp, by simpa using hl, hm, hn, fun _ => ⟨b, off, ha, hb, fun i hi => ?_⟩⟩
    have hi2 : i < len := by simpa using hi
    have e : ((List.range len).map f).getD i d = f i := by simp [hi2]
    show Q b (off + i * size) (((List.range len).map f).getD i d)
    rw [e]
    exact hf i (by omega)
  · have : len = 0 := by omega
    subst this
    exact ⟨[], a, cap, rfl, hl, hm, hn, fun h => absurd h (by simp)⟩
end
end Go.Proofs.Ytimllpocefbcbaa.kit
