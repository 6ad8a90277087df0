/-
  ast.Ref as a map's key over this seat's program.
  Conditions: none.
-/
import Derived.Test.YtbnkhpbgibgahaaMd
import Derived.Test.YtbnkhpbgibgahaaTurn
import Derived.Maps.OwnSet
import Derived.Maps.RangeWalk
import Derived.DeepKeys4
namespace Go.Proofs.Ytbnkhpbgibgahaa.rf
open Go.ChangeShapes Go.WideShapes Go.ChangeAt Go.RowKit
open kit ms
open Go.Maps (Keyed)

def key (e : En) : Value := .agg #[.int .u32 e.src, .int .u32 e.inn]
def okE (e : En) : Prop := (0 ≤ e.src ∧ e.src ≤ 4294967295) ∧ 0 ≤ e.inn ∧ e.inn ≤ 4294967295
theorem laidOut : laidOutB Try.prog = true := by kernel_rfl
theorem K38 : Keyed Try.prog 38 := Keyed.of_law (deep_law_laid laidOut (m := 2) (by omega) (of_decide_eq_true (by kernel_rfl)) (by kernel_rfl) (by kernel_rfl))
theorem cc29 : Try.prog.cellsOf 29 = 1 := by kernel_rfl
theorem cc38 : Try.prog.cellsOf 38 = 2 := by kernel_rfl
theorem kt38 : Try.prog.keyType 38 = true := by kernel_rfl
theorem wf32 (i : Int) (h0 : 0 ≤ i) (h : i ≤ 4294967295) : (Lit.int .u32 i).wf = true := by
  simp only [Lit.wf, Bool.and_eq_true, decide_eq_true_eq]
  exact ⟨h0, h⟩
theorem wf32_inv {i : Int} (h : (Lit.int .u32 i).wf = true) : 0 ≤ i ∧ i ≤ 4294967295 := by
  simp only [Lit.wf, Bool.and_eq_true, decide_eq_true_eq] at h
  exact h
set_option maxRecDepth 100000 in
theorem key_some {e : En} (h : okE e) : ∃ kl, keyOf Try.prog 38 (key e) = some kl := by
  obtain ⟨s, a, b⟩ := e
  obtain ⟨⟨h1, h2⟩, h3, h4⟩ := h
  dsimp only at h1 h2 h3 h4
  have hw1 := wf32 a h1 h2
  have hw2 := wf32 b h3 h4
  have k2 : (key ⟨s, a, b⟩).formed Try.prog 38 = true := by
    unfold key Value.formed
    simp only [Try.underlying38, cc38]
    rfl
  obtain ⟨M, hM⟩ : ∃ M, Try.prog.types.size = M + 1 := ⟨Try.prog.types.size - 1, by have : 0 < Try.prog.types.size := of_decide_eq_true (by kernel_rfl); omega⟩
  unfold keyOf
  rw [Try.underlying38]
  simp only [kt38, k2, Bool.and_true, if_true, hM]
  have hl : ∃ ls, Try.prog.keyLits (M + 1 + 1) 38 (key ⟨s, a, b⟩).cells.toList = some ls := by
    unfold key Value.cells
    simp [Program.keyLits, Try.underlying38, Try.underlying29, cc38, cc29, hw1, hw2]
  obtain ⟨ls, hls⟩ := hl
  rw [hls]
  exact ⟨_, rfl⟩
theorem one_inv {d : Nat} {x : Value} {l : List Lit} (h : Try.prog.keyLits (d + 1) 29 [x] = some l) : ∃ i, x = .int .u32 i ∧ 0 ≤ i ∧ i ≤ 4294967295 := by
  cases x <;> simp [Program.keyLits, Try.underlying29] at h
  obtain ⟨⟨rfl, hw⟩, _⟩ := h
  exact ⟨_, rfl, wf32_inv hw⟩
set_option maxRecDepth 100000 in
theorem key_inv {v : Value} {l : Lit} (h : keyOf Try.prog 38 v = some l) : ∃ e, okE e ∧ v = key e := by
  obtain ⟨M, hM⟩ : ∃ M, Try.prog.types.size = M + 1 := ⟨Try.prog.types.size - 1, by have : 0 < Try.prog.types.size := of_decide_eq_true (by kernel_rfl); omega⟩
  unfold keyOf at h
  rw [Try.underlying38] at h
  simp only [kt38, Bool.true_and, hM] at h
  by_cases hf : v.formed Try.prog 38 = true
  · rw [if_pos hf] at h
    cases v <;> simp only [Value.formed, Try.underlying38] at hf <;> try (exact absurd hf (by decide))
    rename_i cs
    rw [cc38] at hf
    have hs : cs.size = 2 := by simpa using hf
    obtain ⟨x, y, rfl⟩ : ∃ x y, cs = #[x, y] := ⟨cs[0], cs[1], by
      apply Array.ext
      · simpa using hs
      · intro i h1 h2
        have : i = 0 ∨ i = 1 := by omega
        rcases this with rfl | rfl <;> rfl⟩
    clear hf hs
    have h2 : ∃ ls, Try.prog.keyLits (M + 1 + 1) 38 [x, y] = some ls := by
      rcases hk : Try.prog.keyLits (M + 1 + 1) 38 [x, y] with _ | ls
      · simp [Value.cells, hk] at h
      · exact ⟨ls, rfl⟩
    clear h
    obtain ⟨ls, h2⟩ := h2
    unfold Program.keyLits at h2
    simp only [Try.underlying38, cc38, cc29, List.length_cons, List.length_nil] at h2
    rcases h3 : Try.prog.keyLits (M + 1) 29 [x] with _ | l1
    · simp [cc29, h3] at h2
    rcases h4 : Try.prog.keyLits (M + 1) 29 [y] with _ | l2
    · simp [cc29, h3, h4] at h2
    obtain ⟨i, rfl, i1, i2⟩ := one_inv h3
    obtain ⟨j, rfl, j1, j2⟩ := one_inv h4
    exact ⟨⟨0, i, j⟩, ⟨⟨i1, i2⟩, j1, j2⟩, rfl⟩
  · rw [if_neg hf] at h
    cases h
end Go.Proofs.Ytbnkhpbgibgahaa.rf
