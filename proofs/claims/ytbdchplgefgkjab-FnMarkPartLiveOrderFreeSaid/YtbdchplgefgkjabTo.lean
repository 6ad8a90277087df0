/-
  The arguments of FnMarkPartLiveOrderFree opened over this seat's program.
  Conditions: none.
-/
import Derived.Test.YtbdchplgefgkjabOpen
import Derived.Test.YtbdchplgefgkjabTf
import Derived.Lib.SmallJoins
namespace Go.Proofs.Ytbdchplgefgkjab.tm
open Go.ChangeShapes Go.WideShapes Go.ChangeAt Go.RowKit
open kit dfs

theorem bu32 {n : Int} (h : (Lit.int .u32 n).wf = true) : ∃ k : Nat, n = (k : Int) ∧ k ≤ 4294967295 := by
  simp only [Lit.wf, Bool.and_eq_true, decide_eq_true_eq] at h
  obtain ⟨h1, h2⟩ := h
  have a : 0 ≤ n := h1
  have b : n ≤ 4294967295 := h2
  exact ⟨n.toNat, by omega, by omega⟩
theorem cc4 : Try.prog.cellsOf 4 = 1 := by kernel_rfl
theorem cc23 : Try.prog.cellsOf 23 = 1 := by kernel_rfl
theorem cc102 : Try.prog.cellsOf 102 = 1 := by kernel_rfl
theorem cc105 : Try.prog.cellsOf 105 = 1 := by kernel_rfl
section
variable {H : Type} {enc : TypeId × Value → H} {W : World}
/-- a slice of structs in a cell -/
theorem open_cell {t e size m : Nat} {v : Value} {x : DataW H × List MemPlace} (ht : Try.prog.underlying t = some (.slice e)) (hc : Try.prog.cellsOf e = size) (hs : 0 < size) (h : DataW.trod enc Try.prog W 0 (fun _ => true) true m t [v] = some x) :
    ∃ a len cap, v = .slice a len cap ∧ len ≤ cap ∧ cap ≤ maxLen ∧ (a = none → cap = 0) ∧ (0 < cap → ∃ b off, a = some ⟨b, off, none⟩ ∧ b < W.heap.size ∧ ∀ i, i < cap → ∃ (cs : List Value) (m : Nat) (x : DataW H × List MemPlace), cs.length = size ∧
      (∀ j, j < size → W.cell? ⟨b, off + i * size + j, none⟩ = cs[j]?) ∧ DataW.trod enc Try.prog W 0 (fun _ => true) true m e cs = some x) := by
  have hv : ∃ a len cap, v = .slice a len cap := by
    rcases Go.Deep.open_slice ht h with ⟨hcs, _⟩ | ⟨y, l, c, _, _, _, _, hcs, _⟩
    · exact ⟨none, 0, 0, by simpa using hcs⟩
    · exact ⟨some y, l, c, by simpa using hcs⟩
  obtain ⟨a, len, cap, rfl⟩ := hv
  exact ⟨a, len, cap, rfl, open_elems ht hc hs (d := x.1) (p := x.2) ⟨m, by simpa [Value.cells] using h⟩⟩
set_option maxRecDepth 100000 in
theorem openDep {m : Nat} {cs : List Value} {x : DataW H × List MemPlace} (hl : cs.length = 2) (h : DataW.trod enc Try.prog W 0 (fun _ => true) true m 25 cs = some x) :
    ∃ y : Nat × Nat, cs = [.int .u32 (y.1 : Int), .int .u32 (y.2 : Int)] ∧ y.1 ≤ 4294967295 ∧ y.2 ≤ 4294967295 := by
  obtain ⟨xs, n, _, _, _, hxl, hx⟩ := DataW.trod_struct Try.underlying25 h
  match cs, hl with
  | [v0, v1], _ =>
    have q0 : DataW.trod enc Try.prog W 0 (fun _ => true) true n 23 [v0] = xs[0]? := by have q : DataW.trod enc Try.prog W 0 (fun _ => true) true n 23 ((([v0, v1] : List Value).drop 0).take (Try.prog.cellsOf 23)) = xs[0]? := hx 0 _ rfl; rw [cc23] at q; exact q
    have q1 : DataW.trod enc Try.prog W 0 (fun _ => true) true n 23 [v1] = xs[1]? := by have q : DataW.trod enc Try.prog W 0 (fun _ => true) true n 23 ((([v0, v1] : List Value).drop 1).take (Try.prog.cellsOf 23)) = xs[1]? := hx 1 _ rfl; rw [cc23] at q; exact q
    have hxl : xs.length = 2 := hxl
    rw [List.getElem?_eq_getElem (by omega)] at q0 q1
    obtain ⟨n0, e0, _, w0⟩ := DataW.trod_int Try.underlying23 q0
    obtain ⟨n1, e1, _, w1⟩ := DataW.trod_int Try.underlying23 q1
    obtain ⟨k0, rfl, b0⟩ := bu32 w0
    obtain ⟨k1, rfl, b1⟩ := bu32 w1
    have e0 : v0 = .int .u32 (k0 : Int) := by simpa using e0
    have e1 : v1 = .int .u32 (k1 : Int) := by simpa using e1
    exact ⟨(k0, k1), by rw [e0, e1], b0, b1⟩
theorem openDeps {m : Nat} {v : Value} {x : DataW H × List MemPlace} (h : DataW.trod enc Try.prog W 0 (fun _ => true) true m 105 [v] = some x) :
    ∃ da D dc, v = .slice da (D : List (Nat × Nat)).length dc ∧ D.length ≤ dc ∧ dc ≤ maxLen ∧ (da = none → dc = 0) ∧ DepsC W da D ∧ ∀ y ∈ D, y.1 ≤ 4294967295 ∧ y.2 ≤ 4294967295 := by
  obtain ⟨a, len, cap, rfl, hl, hm, hn, hx⟩ := open_cell (size := 2) Try.underlying105 (by kernel_rfl) (by omega) h
  by_cases hpos : 0 < cap
  · obtain ⟨b, off, ha, hb, hx⟩ := hx hpos
    have each : ∀ i, i < cap → ∃ y : Nat × Nat, (W.cell? ⟨b, off + i * 2, none⟩ = some (.int .u32 (y.1 : Int)) ∧ W.cell? ⟨b, off + i * 2 + 1, none⟩ = some (.int .u32 (y.2 : Int))) ∧ y.1 ≤ 4294967295 ∧ y.2 ≤ 4294967295 := fun i hi => by
      obtain ⟨cs, m, x, h1, h2, h3⟩ := hx i hi
      obtain ⟨y, rfl, b0, b1⟩ := openDep h1 h3
      exact ⟨y, ⟨h2 0 (by omega), h2 1 (by omega)⟩, b0, b1⟩
    obtain ⟨f, hf⟩ := Go.Deep.choose_lt each
    refine ⟨a, (List.range len).map f, cap, by simp, by simpa using hl, hm, hn, fun _ => ⟨b, off, ha, hb, fun k hk => ?_⟩, fun y hy => ?_⟩
    · have hk2 : k < len := by simpa using hk
      rw [List.getElem_map, List.getElem_range]
      exact (hf k (by omega)).1
    · obtain ⟨i, hi, rfl⟩ := List.mem_map.1 hy
      exact (hf i (by have := List.mem_range.1 hi; omega)).2
  · have : len = 0 := by omega
    subst this
    exact ⟨a, [], cap, rfl, hl, hm, hn, fun h => absurd h (by simp), fun y hy => absurd hy (by simp)⟩
set_option maxRecDepth 100000 in
theorem openPart {m : Nat} {cs : List Value} {x : DataW H × List MemPlace} {b o : Nat} (hl : cs.length = 2) (hc : ∀ j, j < 2 → W.cell? ⟨b, o + j, none⟩ = cs[j]?) (h : DataW.trod enc Try.prog W 0 (fun _ => true) true m 107 cs = some x) : ∃ y, PartC W b o y := by
  obtain ⟨xs, n, _, _, _, hxl, hx⟩ := DataW.trod_struct Try.underlying107 h
  match cs, hl with
  | [v0, v1], _ =>
    have q0 : DataW.trod enc Try.prog W 0 (fun _ => true) true n 4 [v0] = xs[0]? := by have q : DataW.trod enc Try.prog W 0 (fun _ => true) true n 4 ((([v0, v1] : List Value).drop 0).take (Try.prog.cellsOf 4)) = xs[0]? := hx 0 _ rfl; rw [cc4] at q; exact q
    have q1 : DataW.trod enc Try.prog W 0 (fun _ => true) true n 105 [v1] = xs[1]? := by have q : DataW.trod enc Try.prog W 0 (fun _ => true) true n 105 ((([v0, v1] : List Value).drop 1).take (Try.prog.cellsOf 105)) = xs[1]? := hx 1 _ rfl; rw [cc105] at q; exact q
    have hxl : xs.length = 2 := hxl
    rw [List.getElem?_eq_getElem (by omega)] at q0 q1
    obtain ⟨k, e0, _⟩ := DataW.trod_bool Try.underlying4 q0
    have e0 : v0 = .bool k := by simpa using e0
    obtain ⟨da, D, dc, e1, r1, r2, r3, r4, r5⟩ := openDeps q1
    subst e0 e1
    exact ⟨(k, D), da, dc, hc 0 (by omega), hc 1 (by omega), r1, r2, r3, r4, r5⟩
theorem openParts {m : Nat} {v : Value} {x : DataW H × List MemPlace} (h : DataW.trod enc Try.prog W 0 (fun _ => true) true m 102 [v] = some x) :
    ∃ pa P pc, v = .slice pa (P : List (Bool × List (Nat × Nat))).length pc ∧ P.length ≤ pc ∧ pc ≤ maxLen ∧ (pa = none → pc = 0) ∧ PartsC W pa P := by
  obtain ⟨a, len, cap, rfl, hl, hm, hn, hx⟩ := open_cell (size := 2) Try.underlying102 (by kernel_rfl) (by omega) h
  by_cases hpos : 0 < cap
  · obtain ⟨b, off, ha, hb, hx⟩ := hx hpos
    have each : ∀ i, i < cap → ∃ y : Bool × List (Nat × Nat), PartC W b (off + i * 2) y := fun i hi => by
      obtain ⟨cs, m, x, h1, h2, h3⟩ := hx i hi
      exact openPart h1 h2 h3
    obtain ⟨f, hf⟩ := Go.Deep.choose_lt each
    refine ⟨a, (List.range len).map f, cap, by simp, by simpa using hl, hm, hn, fun _ => ⟨b, off, ha, hb, fun j hj => ?_⟩⟩
    have hj2 : j < len := by simpa using hj
    have e : ((List.range len).map f).getD j (false, []) = f j := by simp [hj2]
    rw [e]
    exact hf j (by omega)
  · have : len = 0 := by omega
    subst this
    exact ⟨a, [], cap, rfl, hl, hm, hn, fun h => absurd h (by simp)⟩
set_option maxRecDepth 100000 in
theorem openFile {m : Nat} {cs : List Value} {x : DataW H × List MemPlace} {b o : Nat} (hl : cs.length = 1) (hc : ∀ j, j < 1 → W.cell? ⟨b, o + j, none⟩ = cs[j]?) (h : DataW.trod enc Try.prog W 0 (fun _ => true) true m 104 cs = some x) : ∃ P, FileC W b o P := by
  obtain ⟨xs, n, _, _, _, hxl, hx⟩ := DataW.trod_struct Try.underlying104 h
  match cs, hl with
  | [v0], _ =>
    have q0 : DataW.trod enc Try.prog W 0 (fun _ => true) true n 102 [v0] = xs[0]? := by have q : DataW.trod enc Try.prog W 0 (fun _ => true) true n 102 ((([v0] : List Value).drop 0).take (Try.prog.cellsOf 102)) = xs[0]? := hx 0 _ rfl; rw [cc102] at q; exact q
    have hxl : xs.length = 1 := hxl
    rw [List.getElem?_eq_getElem (by omega)] at q0
    obtain ⟨pa, P, pc, e1, r1, r2, r3, r4⟩ := openParts q0
    subst e1
    exact ⟨P, pa, pc, hc 0 (by omega), r1, r2, r3, r4⟩
theorem openFiles {a : Option Addr} {len cap : Nat} {d : DataW H} {p : List MemPlace} (h : DataW.Trod enc Try.prog W 0 (fun _ => true) true 22 (.slice a len cap) d p) : ∃ F, FilesC W a len F ∧ len ≤ 9223372036854775807 := by
  obtain ⟨hl, hm, _, hx⟩ := open_elems (size := 1) Try.underlying22 (by kernel_rfl) (by omega) h
  unfold maxLen at hm
  by_cases hpos : 0 < cap
  · obtain ⟨b, off, ha, hb, hx⟩ := hx hpos
    have each : ∀ i, i < cap → ∃ P, FileC W b (off + i) P := fun i hi => by
      obtain ⟨cs, m, x, h1, h2, h3⟩ := hx i hi
      rw [Nat.mul_one] at h2
      exact openFile h1 h2 h3
    obtain ⟨f, hf⟩ := Go.Deep.choose_lt each
    refine ⟨(List.range len).map f, ⟨by simp, fun _ => ⟨b, off, ha, hb, fun i hi => ?_⟩⟩, by omega⟩
    have e : ((List.range len).map f).getD i [] = f i := by simp [hi]
    rw [e]
    exact hf i (by omega)
  · exact ⟨[], ⟨by simp; omega, fun h => absurd h (by omega)⟩, by omega⟩
set_option maxRecDepth 100000 in
/-- a dependency handed in by value -/
theorem openArg {v : Value} {d : DataW H} {p : List MemPlace} {r : Reach} {b0 : Nat} (hv : Value.okWide Try.prog W r b0 25 v) (h : DataW.Trod enc Try.prog W 0 (fun _ => true) true 25 v d p) : ∃ y1 y2 : Nat, v = .agg #[.int .u32 (y1 : Int), .int .u32 (y2 : Int)] ∧ y1 ≤ 4294967295 ∧ y2 ≤ 4294967295 := by
  obtain ⟨v0, v1, y0, y1, n, rfl, _, _, q0, q1⟩ := Go.Joins.open_agg2 Try.underlying25 (by kernel_rfl) (by kernel_rfl) hv h
  have q0 : DataW.trod enc Try.prog W 0 (fun _ => true) true n 23 [v0] = some y0 := q0
  have q1 : DataW.trod enc Try.prog W 0 (fun _ => true) true n 23 [v1] = some y1 := q1
  obtain ⟨n0, e0, _, w0⟩ := DataW.trod_int Try.underlying23 q0
  obtain ⟨n1, e1, _, w1⟩ := DataW.trod_int Try.underlying23 q1
  obtain ⟨k0, rfl, b0⟩ := bu32 w0
  obtain ⟨k1, rfl, b1⟩ := bu32 w1
  have e0 : v0 = .int .u32 (k0 : Int) := by simpa using e0
  have e1 : v1 = .int .u32 (k1 : Int) := by simpa using e1
  exact ⟨k0, k1, by rw [e0, e1], b0, b1⟩
end
end Go.Proofs.Ytbdchplgefgkjab.tm
