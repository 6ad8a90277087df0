/-
  The argument 'files' of FnRecursivelyWrapDependenciesMatchesWorklist opened over this seat's program.
  Conditions: none.
-/
import Derived.Test.YtbdchplgefgkjaaOpen
import Derived.Test.YtbdchplgefgkjaaWf
namespace Go.Proofs.Ytbdchplgefgkjaa.wm
open Go.ChangeShapes Go.WideShapes Go.ChangeAt Go.RowKit
open kit

theorem bu8 {n : Int} (h : (Lit.int .u8 n).wf = true) : 0 ≤ n ∧ n ≤ 255 := by
  simp only [Lit.wf, Bool.and_eq_true, decide_eq_true_eq] at h
  exact h
theorem bi32 {n : Int} (h : (Lit.int .i32 n).wf = true) : -2147483648 ≤ n ∧ n ≤ 2147483647 := by
  simp only [Lit.wf, Bool.and_eq_true, decide_eq_true_eq] at h
  exact h
section
variable {H : Type} {enc : TypeId × Value → H} {W : World}
theorem c5 : Try.prog.cellsOf 5 = 1 := by kernel_rfl
theorem c4 : Try.prog.cellsOf 4 = 1 := by kernel_rfl
theorem c35 : Try.prog.cellsOf 35 = 1 := by kernel_rfl
set_option maxRecDepth 100000 in
theorem openFile {m : Nat} {cs : List Value} {x : DataW H × List MemPlace} {b o : Nat} (hl : cs.length = 4) (hc : ∀ j, j < 4 → W.cell? ⟨b, o + j, none⟩ = cs[j]?) (h : DataW.trod enc Try.prog W 0 (fun _ => true) true m 37 cs = some x) :
    ∃ f : WF, FileAt W b o f ∧ (0 ≤ f.ek ∧ f.ek ≤ 255) ∧ (0 ≤ f.wr ∧ f.wr ≤ 255) ∧ ∀ x ∈ f.im, -2147483648 ≤ x ∧ x ≤ 2147483647 := by
  obtain ⟨xs, n, _, _, _, hxl, hx⟩ := DataW.trod_struct Try.underlying37 h
  match cs, hl with
  | [v0, v1, v2, v3], _ =>
    have q0 : DataW.trod enc Try.prog W 0 (fun _ => true) true n 5 [v0] = xs[0]? := by have q : DataW.trod enc Try.prog W 0 (fun _ => true) true n 5 ((([v0, v1, v2, v3] : List Value).drop 0).take (Try.prog.cellsOf 5)) = xs[0]? := hx 0 _ rfl; rw [c5] at q; exact q
    have q1 : DataW.trod enc Try.prog W 0 (fun _ => true) true n 5 [v1] = xs[1]? := by have q : DataW.trod enc Try.prog W 0 (fun _ => true) true n 5 ((([v0, v1, v2, v3] : List Value).drop 1).take (Try.prog.cellsOf 5)) = xs[1]? := hx 1 _ rfl; rw [c5] at q; exact q
    have q2 : DataW.trod enc Try.prog W 0 (fun _ => true) true n 4 [v2] = xs[2]? := by have q : DataW.trod enc Try.prog W 0 (fun _ => true) true n 4 ((([v0, v1, v2, v3] : List Value).drop 2).take (Try.prog.cellsOf 4)) = xs[2]? := hx 2 _ rfl; rw [c4] at q; exact q
    have q3 : DataW.trod enc Try.prog W 0 (fun _ => true) true n 35 [v3] = xs[3]? := by have q : DataW.trod enc Try.prog W 0 (fun _ => true) true n 35 ((([v0, v1, v2, v3] : List Value).drop 3).take (Try.prog.cellsOf 35)) = xs[3]? := hx 3 _ rfl; rw [c35] at q; exact q
    have hxl : xs.length = 4 := hxl
    rw [List.getElem?_eq_getElem (by omega)] at q0 q1 q2 q3
    obtain ⟨n0, e0, _, w0⟩ := DataW.trod_int Try.underlying5 q0
    obtain ⟨n1, e1, _, w1⟩ := DataW.trod_int Try.underlying5 q1
    obtain ⟨n2, e2, _⟩ := DataW.trod_bool Try.underlying4 q2
    obtain ⟨a, c, zs, e3, hr, hw⟩ := row_ints Try.underlying35 Try.underlying21 (by kernel_rfl) q3
    have e0 : v0 = .int .u8 n0 := by simpa using e0
    have e1 : v1 = .int .u8 n1 := by simpa using e1
    have e2 : v2 = .bool n2 := by simpa using e2
    subst e0 e1 e2 e3
    exact ⟨⟨n0, n1, n2, zs, a, c⟩, ⟨hc 0 (by omega), hc 1 (by omega), hc 2 (by omega), hc 3 (by omega), hr⟩, bu8 w0, bu8 w1, fun x hx => bi32 (hw x hx)⟩
theorem openFiles {a : Option Addr} {len cap : Nat} {d : DataW H} {p : List MemPlace} (h : DataW.Trod enc Try.prog W 0 (fun _ => true) true 22 (.slice a len cap) d p) : ∃ fs, Fs W a len fs ∧ len ≤ maxLen := by
  obtain ⟨hl, hm, _, hx⟩ := open_elems (size := 4) Try.underlying22 (by kernel_rfl) (by omega) h
  by_cases hpos : 0 < cap
  · obtain ⟨b, off, ha, hb, hx⟩ := hx hpos
    have each : ∀ i, i < cap → ∃ f : WF, FileAt W b (off + i * 4) f ∧ (0 ≤ f.ek ∧ f.ek ≤ 255) ∧ (0 ≤ f.wr ∧ f.wr ≤ 255) ∧ ∀ x ∈ f.im, -2147483648 ≤ x ∧ x ≤ 2147483647 := fun i hi => by
      obtain ⟨cs, m, x, h1, h2, h3⟩ := hx i hi
      exact openFile h1 h2 h3
    obtain ⟨F, hF⟩ := Go.Deep.choose_lt each
    refine ⟨(List.range len).map F, ⟨by simp, fun _ => ⟨b, off, ha, hb, fun i hi => ?_⟩, fun f hf => ?_⟩, by omega⟩
    · have e : ((List.range len).map F).getD i default = F i := by simp [hi]
      rw [e]
      exact (hF i (by omega)).1
    · obtain ⟨i, hi, rfl⟩ := List.mem_map.1 hf
      exact (hF i (by have := List.mem_range.1 hi; omega)).2
  · exact ⟨[], ⟨by simp; omega, fun h => absurd h (by omega), fun f hf => absurd hf (by simp)⟩, by omega⟩
end
end Go.Proofs.Ytbdchplgefgkjaa.wm
