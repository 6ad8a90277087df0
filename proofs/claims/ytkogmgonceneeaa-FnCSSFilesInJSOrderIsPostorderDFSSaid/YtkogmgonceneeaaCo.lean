/-
  The arguments of FnCSSFilesInJSOrderIsPostorderDFS opened over this seat's program.
  Conditions: none.
-/
import Derived.Test.YtkogmgonceneeaaOpen
import Derived.Test.YtkogmgonceneeaaCa
import Derived.Lib.SmallJoins
namespace Go.Proofs.Ytkogmgonceneeaa.css
open Go.ChangeShapes Go.WideShapes Go.ChangeAt Go.RowKit
open kit dfs

theorem bu32 {n : Int} (h : (Lit.int .u32 n).wf = true) : ∃ k : Nat, n = (k : Int) ∧ k ≤ 4294967295 := by
  simp only [Lit.wf, Bool.and_eq_true, decide_eq_true_eq] at h
  obtain ⟨h1, h2⟩ := h
  have a : 0 ≤ n := h1
  have b : n ≤ 4294967295 := h2
  exact ⟨n.toNat, by omega, by omega⟩
theorem cc4 : Try.prog.cellsOf 4 = 1 := by kernel_rfl
theorem cc23 : Try.prog.cellsOf 23 = 1 := by kernel_rfl
theorem cc92 : Try.prog.cellsOf 92 = 1 := by kernel_rfl
section
variable {H : Type} {enc : TypeId × Value → H} {W : World}
/-- a slice in a cell -/
theorem open_cell {t e size m : Nat} {v : Value} {x : DataW H × List MemPlace} (ht : Try.prog.underlying t = some (.slice e)) (hc : Try.prog.cellsOf e = size) (hs : 0 < size) (h : DataW.trod enc Try.prog W 0 (fun _ => true) true m t [v] = some x) :
    ∃ a len cap, v = .slice a len cap ∧ len ≤ cap ∧ cap ≤ maxLen ∧ (a = none → cap = 0) ∧ (0 < cap → ∃ b off, a = some ⟨b, off, none⟩ ∧ b < W.heap.size ∧ ∀ i, i < cap → ∃ (cs : List Value) (m : Nat) (x : DataW H × List MemPlace), cs.length = size ∧
      (∀ j, j < size → W.cell? ⟨b, off + i * size + j, none⟩ = cs[j]?) ∧ DataW.trod enc Try.prog W 0 (fun _ => true) true m e cs = some x) := by
  have hv : ∃ a len cap, v = .slice a len cap := by
    rcases Go.Deep.open_slice ht h with ⟨hcs, _⟩ | ⟨y, l, c, _, _, _, _, hcs, _⟩
    · exact ⟨none, 0, 0, by simpa using hcs⟩
    · exact ⟨some y, l, c, by simpa using hcs⟩
  obtain ⟨a, len, cap, rfl⟩ := hv
  exact ⟨a, len, cap, rfl, open_elems ht hc hs (d := x.1) (p := x.2) ⟨m, by simpa [Value.cells] using h⟩⟩
set_option maxRecDepth 100000 in
theorem openImp {m : Nat} {cs : List Value} {x : DataW H × List MemPlace} (hl : cs.length = 2) (h : DataW.trod enc Try.prog W 0 (fun _ => true) true m 97 cs = some x) :
    ∃ y : Imp, cs = [.bool y.1, .int .u32 (y.2 : Int)] ∧ y.2 ≤ 4294967295 := by
  obtain ⟨xs, n, _, _, _, hxl, hx⟩ := DataW.trod_struct Try.underlying97 h
  match cs, hl with
  | [v0, v1], _ =>
    have q0 : DataW.trod enc Try.prog W 0 (fun _ => true) true n 4 [v0] = xs[0]? := by have q : DataW.trod enc Try.prog W 0 (fun _ => true) true n 4 ((([v0, v1] : List Value).drop 0).take (Try.prog.cellsOf 4)) = xs[0]? := hx 0 _ rfl; rw [cc4] at q; exact q
    have q1 : DataW.trod enc Try.prog W 0 (fun _ => true) true n 23 [v1] = xs[1]? := by have q : DataW.trod enc Try.prog W 0 (fun _ => true) true n 23 ((([v0, v1] : List Value).drop 1).take (Try.prog.cellsOf 23)) = xs[1]? := hx 1 _ rfl; rw [cc23] at q; exact q
    have hxl : xs.length = 2 := hxl
    rw [List.getElem?_eq_getElem (by omega)] at q0 q1
    obtain ⟨k, e0, _⟩ := DataW.trod_bool Try.underlying4 q0
    obtain ⟨n1, e1, _, w1⟩ := DataW.trod_int Try.underlying23 q1
    obtain ⟨k1, rfl, b1⟩ := bu32 w1
    have e0 : v0 = .bool k := by simpa using e0
    have e1 : v1 = .int .u32 (k1 : Int) := by simpa using e1
    exact ⟨(k, k1), by rw [e0, e1], b1⟩
theorem openImps {m : Nat} {v : Value} {x : DataW H × List MemPlace} (h : DataW.trod enc Try.prog W 0 (fun _ => true) true m 95 [v] = some x) :
    ∃ da D dc, v = .slice da (D : List Imp).length dc ∧ D.length ≤ dc ∧ dc ≤ maxLen ∧ (da = none → dc = 0) ∧ ImpsC W da D ∧ ∀ y ∈ D, y.2 ≤ 4294967295 := by
  obtain ⟨a, len, cap, rfl, hl, hm, hn, hx⟩ := open_cell (size := 2) Try.underlying95 (by kernel_rfl) (by omega) h
  by_cases hpos : 0 < cap
  · obtain ⟨b, off, ha, hb, hx⟩ := hx hpos
    have each : ∀ i, i < cap → ∃ y : Imp, (W.cell? ⟨b, off + i * 2, none⟩ = some (.bool y.1) ∧ W.cell? ⟨b, off + i * 2 + 1, none⟩ = some (.int .u32 (y.2 : Int))) ∧ y.2 ≤ 4294967295 := fun i hi => by
      obtain ⟨cs, m, x, h1, h2, h3⟩ := hx i hi
      obtain ⟨y, rfl, b0⟩ := openImp h1 h3
      exact ⟨y, ⟨h2 0 (by omega), h2 1 (by omega)⟩, b0⟩
    obtain ⟨f, hf⟩ := Go.Deep.choose_lt each
    refine ⟨a, (List.range len).map f, cap, by simp, by simpa using hl, hm, hn, fun _ => ⟨b, off, ha, hb, fun k hk => ?_⟩, fun y hy => ?_⟩
    · have hk2 : k < len := by simpa using hk
      rw [List.getElem_map, List.getElem_range]
      exact (hf k (by omega)).1
    · obtain ⟨i, hi, rfl⟩ := List.mem_map.1 hy
      exact (hf i (by have := List.mem_range.1 hi; omega)).2
  · have : len = 0 := by omega
    subst this
    exact ⟨a, [], cap, rfl, hl, hm, hn, fun h => absurd h (by simp), fun y hy => absurd hy (by simp)⟩
theorem openParts {m : Nat} {v : Value} {x : DataW H × List MemPlace} (h : DataW.trod enc Try.prog W 0 (fun _ => true) true m 92 [v] = some x) :
    ∃ pa P pc, v = .slice pa (P : List (List Imp)).length pc ∧ P.length ≤ pc ∧ pc ≤ maxLen ∧ (pa = none → pc = 0) ∧ PartsC W pa P := by
  obtain ⟨a, len, cap, rfl, hl, hm, hn, hx⟩ := open_cell (size := 1) Try.underlying92 (by kernel_rfl) (by omega) h
  by_cases hpos : 0 < cap
  · obtain ⟨b, off, ha, hb, hx⟩ := hx hpos
    have each : ∀ i, i < cap → ∃ y : List Imp, PartC W b (off + i) y := fun i hi => by
      obtain ⟨cs, m, x, h1, h2, h3⟩ := hx i hi
      rw [Nat.mul_one] at h2
      match cs, h1 with
      | [v0], _ =>
        obtain ⟨da, D, dc, rfl, r1, r2, r3, r4, r5⟩ := openImps h3
        exact ⟨D, da, dc, h2 0 (by omega), r1, r2, r3, r4, r5⟩
    obtain ⟨f, hf⟩ := Go.Deep.choose_lt each
    refine ⟨a, (List.range len).map f, cap, by simp, by simpa using hl, hm, hn, fun _ => ⟨b, off, ha, hb, fun j hj => ?_⟩⟩
    have hj2 : j < len := by simpa using hj
    have e : ((List.range len).map f).getD j [] = f j := by simp [hj2]
    rw [e]
    exact hf j (by omega)
  · have : len = 0 := by omega
    subst this
    exact ⟨a, [], cap, rfl, hl, hm, hn, fun h => absurd h (by simp)⟩
set_option maxRecDepth 100000 in
theorem openFile {m : Nat} {cs : List Value} {x : DataW H × List MemPlace} {b o : Nat} (hl : cs.length = 3) (hc : ∀ j, j < 3 → W.cell? ⟨b, o + j, none⟩ = cs[j]?) (h : DataW.trod enc Try.prog W 0 (fun _ => true) true m 94 cs = some x) : ∃ y, FileC W b o y := by
  obtain ⟨xs, n, _, _, _, hxl, hx⟩ := DataW.trod_struct Try.underlying94 h
  match cs, hl with
  | [v0, v1, v2], _ =>
    have q0 : DataW.trod enc Try.prog W 0 (fun _ => true) true n 92 [v0] = xs[0]? := by have q : DataW.trod enc Try.prog W 0 (fun _ => true) true n 92 ((([v0, v1, v2] : List Value).drop 0).take (Try.prog.cellsOf 92)) = xs[0]? := hx 0 _ rfl; rw [cc92] at q; exact q
    have q1 : DataW.trod enc Try.prog W 0 (fun _ => true) true n 4 [v1] = xs[1]? := by have q : DataW.trod enc Try.prog W 0 (fun _ => true) true n 4 ((([v0, v1, v2] : List Value).drop 1).take (Try.prog.cellsOf 4)) = xs[1]? := hx 1 _ rfl; rw [cc4] at q; exact q
    have q2 : DataW.trod enc Try.prog W 0 (fun _ => true) true n 23 [v2] = xs[2]? := by have q : DataW.trod enc Try.prog W 0 (fun _ => true) true n 23 ((([v0, v1, v2] : List Value).drop 2).take (Try.prog.cellsOf 23)) = xs[2]? := hx 2 _ rfl; rw [cc23] at q; exact q
    have hxl : xs.length = 3 := hxl
    rw [List.getElem?_eq_getElem (by omega)] at q0 q1 q2
    obtain ⟨pa, P, pc, e0, r1, r2, r3, r4⟩ := openParts q0
    obtain ⟨k, e1, _⟩ := DataW.trod_bool Try.underlying4 q1
    obtain ⟨n2, e2, _, w2⟩ := DataW.trod_int Try.underlying23 q2
    obtain ⟨k2, rfl, b2⟩ := bu32 w2
    have e1 : v1 = .bool k := by simpa using e1
    have e2 : v2 = .int .u32 (k2 : Int) := by simpa using e2
    subst e0 e1 e2
    exact ⟨(P, k, k2), pa, pc, hc 0 (by omega), hc 1 (by omega), hc 2 (by omega), b2, r1, r2, r3, r4⟩
theorem openFiles {a : Option Addr} {len cap : Nat} {d : DataW H} {p : List MemPlace} (h : DataW.Trod enc Try.prog W 0 (fun _ => true) true 22 (.slice a len cap) d p) : ∃ F, FilesC W a len F ∧ len ≤ 9223372036854775807 := by
  obtain ⟨hl, hm, _, hx⟩ := open_elems (size := 3) Try.underlying22 (by kernel_rfl) (by omega) h
  unfold maxLen at hm
  by_cases hpos : 0 < cap
  · obtain ⟨b, off, ha, hb, hx⟩ := hx hpos
    have each : ∀ i, i < cap → ∃ y, FileC W b (off + i * 3) y := fun i hi => by
      obtain ⟨cs, m, x, h1, h2, h3⟩ := hx i hi
      exact openFile h1 h2 h3
    obtain ⟨f, hf⟩ := Go.Deep.choose_lt each
    refine ⟨(List.range len).map f, ⟨by simp, fun _ => ⟨b, off, ha, hb, fun i hi => ?_⟩⟩, by omega⟩
    have e : fl ((List.range len).map f) i = f i := by simp [fl, hi]
    rw [e]
    exact hf i (by omega)
  · exact ⟨[], ⟨by simp; omega, fun h => absurd h (by omega)⟩, by omega⟩
set_option maxRecDepth 100000 in
/-- the entry handed in -/
theorem openEntry {v : Value} {d : DataW H} {p : List MemPlace} {r : Reach} {b0 : Nat} (hv : Value.okWide Try.prog W r b0 23 v) (h : DataW.Trod enc Try.prog W 0 (fun _ => true) true 23 v d p) : ∃ y : Nat, v = .int .u32 (y : Int) ∧ y ≤ 4294967295 := by
  obtain ⟨n, rfl⟩ := okWide_int Try.underlying23 hv
  obtain ⟨m, hm⟩ := h
  obtain ⟨n0, e0, _, w0⟩ := DataW.trod_int Try.underlying23 hm
  have e0 : n = n0 := by simpa [Value.cells] using e0
  subst e0
  obtain ⟨k0, rfl, b0⟩ := bu32 w0
  exact ⟨k0, rfl, b0⟩
end
end Go.Proofs.Ytkogmgonceneeaa.css
