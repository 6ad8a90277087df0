/-
  The arguments of FnMarkReachableOrderFree and FnMarkFileLiveMatchesLeastFixpoint opened over this seat's program.
  Conditions: none.
-/
import Derived.Test.YtgnccfofhcbjjaaOpen
import Derived.Test.YtgnccfofhcbjjaaGr
import Derived.Lib.SmallJoins
namespace Go.Proofs.Ytgnccfofhcbjjaa.lk
open Go.ChangeShapes Go.WideShapes Go.ChangeAt Go.RowKit
open kit dfs

theorem bu32 {n : Int} (h : (Lit.int .u32 n).wf = true) : ∃ k : Nat, n = (k : Int) ∧ k ≤ 4294967295 := by
  simp only [Lit.wf, Bool.and_eq_true, decide_eq_true_eq] at h
  obtain ⟨h1, h2⟩ := h
  have a : 0 ≤ n := h1
  have b : n ≤ 4294967295 := h2
  exact ⟨n.toNat, by omega, by omega⟩
theorem bu8 {n : Int} (h : (Lit.int .u8 n).wf = true) : ∃ k : Nat, n = (k : Int) ∧ k ≤ 255 := by
  simp only [Lit.wf, Bool.and_eq_true, decide_eq_true_eq] at h
  obtain ⟨h1, h2⟩ := h
  have a : 0 ≤ n := h1
  have b : n ≤ 255 := h2
  exact ⟨n.toNat, by omega, by omega⟩
theorem bi32 {n : Int} (h : (Lit.int .i32 n).wf = true) : -2147483648 ≤ n ∧ n ≤ 2147483647 := by
  simp only [Lit.wf, Bool.and_eq_true, decide_eq_true_eq] at h
  exact h
theorem cc4 : Try.prog.cellsOf 4 = 1 := by kernel_rfl
theorem cc5 : Try.prog.cellsOf 5 = 1 := by kernel_rfl
theorem cc21 : Try.prog.cellsOf 21 = 1 := by kernel_rfl
theorem cc23 : Try.prog.cellsOf 23 = 1 := by kernel_rfl
theorem cc63 : Try.prog.cellsOf 63 = 1 := by kernel_rfl
theorem cc64 : Try.prog.cellsOf 64 = 1 := by kernel_rfl
theorem cc76 : Try.prog.cellsOf 76 = 1 := by kernel_rfl
theorem cc133 : Try.prog.cellsOf 133 = 1 := by kernel_rfl
section
variable {H : Type} {enc : TypeId × Value → H} {W : World}
/-- a slice in a cell, its elements each by what they are -/
theorem open_sl {t e size m : Nat} {v : Value} {x : DataW H × List MemPlace} {α : Type} [Inhabited α] (d : α) (Q : Nat → Nat → α → Prop) (ht : Try.prog.underlying t = some (.slice e)) (hc : Try.prog.cellsOf e = size) (hs : 0 < size)
    (each : ∀ (b o : Nat) (cs : List Value) (m : Nat) (x : DataW H × List MemPlace), cs.length = size → (∀ j, j < size → W.cell? ⟨b, o + j, none⟩ = cs[j]?) → DataW.trod enc Try.prog W 0 (fun _ => true) true m e cs = some x → ∃ y, Q b o y)
    (h : DataW.trod enc Try.prog W 0 (fun _ => true) true m t [v] = some x) : ∃ R : List α, Sl W v R.length size (fun b o i => Q b o (R.getD i d)) := by
  have hv : ∃ a len cap, v = .slice a len cap := by
    rcases Go.Deep.open_slice ht h with ⟨hcs, _⟩ | ⟨y, l, c, _, _, _, _, hcs, _⟩
    · exact ⟨none, 0, 0, by simpa using hcs⟩
    · exact ⟨some y, l, c, by simpa using hcs⟩
  obtain ⟨a, len, cap, rfl⟩ := hv
  obtain ⟨hl, hm, hn, hx⟩ := open_elems ht hc hs (d := x.1) (p := x.2) ⟨m, by simpa [Value.cells] using h⟩
  by_cases hpos : 0 < cap
  · obtain ⟨b, off, ha, hb, hx⟩ := hx hpos
    have each2 : ∀ i, i < cap → ∃ y : α, Q b (off + i * size) y := fun i hi => by
      obtain ⟨cs, m, x, h1, h2, h3⟩ := hx i hi
      exact each _ _ _ _ _ h1 h2 h3
    obtain ⟨f, hf⟩ := Go.Deep.choose_lt each2
    refine ⟨(List.range len).map f, a, cap, by simp, by simpa using hl, hm, hn, fun _ => ⟨b, off, ha, hb, fun i hi => ?_⟩⟩
    have hi2 : i < len := by simpa using hi
    have e : ((List.range len).map f).getD i d = f i := by simp [hi2]
    show Q b (off + i * size) (((List.range len).map f).getD i d)
    rw [e]
    exact hf i (by omega)
  · have : len = 0 := by omega
    subst this
    exact ⟨[], a, cap, rfl, hl, hm, hn, fun h => absurd h (by simp)⟩
set_option maxRecDepth 100000 in
theorem openRecs {m : Nat} {v : Value} {x : DataW H × List MemPlace} (h : DataW.trod enc Try.prog W 0 (fun _ => true) true m 63 [v] = some x) : ∃ R, RecsC W v R := by
  refine open_sl (default : Rec) (fun b o y => RecC W b o y) Try.underlying63 (by kernel_rfl) (by omega) ?_ h
  intro b o cs m x hl hc h
  obtain ⟨xs, n, _, _, _, hxl, hx⟩ := DataW.trod_struct Try.underlying137 h
  match cs, hl with
  | [v0, v1, v2], _ =>
    have q0 : DataW.trod enc Try.prog W 0 (fun _ => true) true n 21 [v0] = xs[0]? := by have q : DataW.trod enc Try.prog W 0 (fun _ => true) true n 21 ((([v0, v1, v2] : List Value).drop 0).take (Try.prog.cellsOf 21)) = xs[0]? := hx 0 _ rfl; rw [cc21] at q; exact q
    have q1 : DataW.trod enc Try.prog W 0 (fun _ => true) true n 5 [v1] = xs[1]? := by have q : DataW.trod enc Try.prog W 0 (fun _ => true) true n 5 ((([v0, v1, v2] : List Value).drop 1).take (Try.prog.cellsOf 5)) = xs[1]? := hx 1 _ rfl; rw [cc5] at q; exact q
    have q2 : DataW.trod enc Try.prog W 0 (fun _ => true) true n 4 [v2] = xs[2]? := by have q : DataW.trod enc Try.prog W 0 (fun _ => true) true n 4 ((([v0, v1, v2] : List Value).drop 2).take (Try.prog.cellsOf 4)) = xs[2]? := hx 2 _ rfl; rw [cc4] at q; exact q
    have hxl : xs.length = 3 := hxl
    rw [List.getElem?_eq_getElem (by omega)] at q0 q1 q2
    obtain ⟨n0, e0, _, w0⟩ := DataW.trod_int Try.underlying21 q0
    obtain ⟨n1, e1, _, w1⟩ := DataW.trod_int Try.underlying5 q1
    obtain ⟨n2, e2, _⟩ := DataW.trod_bool Try.underlying4 q2
    obtain ⟨k1, rfl, b1⟩ := bu8 w1
    obtain ⟨a0, b0⟩ := bi32 w0
    have e0 : v0 = .int .i32 n0 := by simpa using e0
    have e1 : v1 = .int .u8 (k1 : Int) := by simpa using e1
    have e2 : v2 = .bool n2 := by simpa using e2
    subst e0 e1 e2
    exact ⟨⟨n0, k1, n2⟩, hc 0 (by omega), hc 1 (by omega), hc 2 (by omega), a0, b0, b1⟩
set_option maxRecDepth 100000 in
theorem openU32s {m : Nat} {v : Value} {x : DataW H × List MemPlace} (h : DataW.trod enc Try.prog W 0 (fun _ => true) true m 76 [v] = some x) : ∃ R, U32sC W v R := by
  refine open_sl (0 : Nat) (fun b o y => U32C W b o y) Try.underlying76 (by kernel_rfl) (by omega) ?_ h
  intro b o cs m x hl hc h
  match cs, hl with
  | [v0], _ =>
    obtain ⟨n0, e0, _, w0⟩ := DataW.trod_int Try.underlying23 h
    obtain ⟨k0, rfl, b0⟩ := bu32 w0
    have e0 : v0 = .int .u32 (k0 : Int) := by simpa using e0
    subst e0
    exact ⟨k0, hc 0 (by omega), b0⟩
set_option maxRecDepth 100000 in
theorem openDeps {m : Nat} {v : Value} {x : DataW H × List MemPlace} (h : DataW.trod enc Try.prog W 0 (fun _ => true) true m 133 [v] = some x) : ∃ R, DepsC W v R := by
  refine open_sl ((0, 0) : Nat × Nat) (fun b o y => DepC W b o y) Try.underlying133 (by kernel_rfl) (by omega) ?_ h
  intro b o cs m x hl hc h
  obtain ⟨xs, n, _, _, _, hxl, hx⟩ := DataW.trod_struct Try.underlying139 h
  match cs, hl with
  | [v0, v1], _ =>
    have q0 : DataW.trod enc Try.prog W 0 (fun _ => true) true n 23 [v0] = xs[0]? := by have q : DataW.trod enc Try.prog W 0 (fun _ => true) true n 23 ((([v0, v1] : List Value).drop 0).take (Try.prog.cellsOf 23)) = xs[0]? := hx 0 _ rfl; rw [cc23] at q; exact q
    have q1 : DataW.trod enc Try.prog W 0 (fun _ => true) true n 23 [v1] = xs[1]? := by have q : DataW.trod enc Try.prog W 0 (fun _ => true) true n 23 ((([v0, v1] : List Value).drop 1).take (Try.prog.cellsOf 23)) = xs[1]? := hx 1 _ rfl; rw [cc23] at q; exact q
    have hxl : xs.length = 2 := hxl
    rw [List.getElem?_eq_getElem (by omega)] at q0 q1
    obtain ⟨n0, e0, _, w0⟩ := DataW.trod_int Try.underlying23 q0
    obtain ⟨n1, e1, _, w1⟩ := DataW.trod_int Try.underlying23 q1
    obtain ⟨k0, rfl, b0⟩ := bu32 w0
    obtain ⟨k1, rfl, b1⟩ := bu32 w1
    have e0 : v0 = .int .u32 (k0 : Int) := by simpa using e0
    have e1 : v1 = .int .u32 (k1 : Int) := by simpa using e1
    subst e0 e1
    exact ⟨(k0, k1), hc 0 (by omega), hc 1 (by omega), b0, b1⟩
set_option maxRecDepth 100000 in
theorem openParts {m : Nat} {v : Value} {x : DataW H × List MemPlace} (h : DataW.trod enc Try.prog W 0 (fun _ => true) true m 64 [v] = some x) : ∃ R, PartsC W v R := by
  refine open_sl (default : Prt) (fun b o y => PartC W b o y) Try.underlying64 (by kernel_rfl) (by omega) ?_ h
  intro b o cs m x hl hc h
  obtain ⟨xs, n, _, _, _, hxl, hx⟩ := DataW.trod_struct Try.underlying135 h
  match cs, hl with
  | [v0, v1, v2, v3], _ =>
    have q0 : DataW.trod enc Try.prog W 0 (fun _ => true) true n 76 [v0] = xs[0]? := by have q : DataW.trod enc Try.prog W 0 (fun _ => true) true n 76 ((([v0, v1, v2, v3] : List Value).drop 0).take (Try.prog.cellsOf 76)) = xs[0]? := hx 0 _ rfl; rw [cc76] at q; exact q
    have q1 : DataW.trod enc Try.prog W 0 (fun _ => true) true n 133 [v1] = xs[1]? := by have q : DataW.trod enc Try.prog W 0 (fun _ => true) true n 133 ((([v0, v1, v2, v3] : List Value).drop 1).take (Try.prog.cellsOf 133)) = xs[1]? := hx 1 _ rfl; rw [cc133] at q; exact q
    have q2 : DataW.trod enc Try.prog W 0 (fun _ => true) true n 4 [v2] = xs[2]? := by have q : DataW.trod enc Try.prog W 0 (fun _ => true) true n 4 ((([v0, v1, v2, v3] : List Value).drop 2).take (Try.prog.cellsOf 4)) = xs[2]? := hx 2 _ rfl; rw [cc4] at q; exact q
    have q3 : DataW.trod enc Try.prog W 0 (fun _ => true) true n 4 [v3] = xs[3]? := by have q : DataW.trod enc Try.prog W 0 (fun _ => true) true n 4 ((([v0, v1, v2, v3] : List Value).drop 3).take (Try.prog.cellsOf 4)) = xs[3]? := hx 3 _ rfl; rw [cc4] at q; exact q
    have hxl : xs.length = 4 := hxl
    rw [List.getElem?_eq_getElem (by omega)] at q0 q1 q2 q3
    obtain ⟨R, hR⟩ := openU32s q0
    obtain ⟨D, hD⟩ := openDeps q1
    obtain ⟨n2, e2, _⟩ := DataW.trod_bool Try.underlying4 q2
    obtain ⟨n3, e3, _⟩ := DataW.trod_bool Try.underlying4 q3
    have e2 : v2 = .bool n2 := by simpa using e2
    have e3 : v3 = .bool n3 := by simpa using e3
    subst e2 e3
    exact ⟨⟨R, D, n2, n3⟩, v0, v1, hc 0 (by omega), hc 1 (by omega), hc 2 (by omega), hc 3 (by omega), hR, hD⟩
set_option maxRecDepth 100000 in
theorem openFiles {a : Option Addr} {len cap : Nat} {d : DataW H} {p : List MemPlace} (h : DataW.Trod enc Try.prog W 0 (fun _ => true) true 22 (.slice a len cap) d p) : ∃ F, FilesC W (.slice a len cap) F ∧ F.length = len ∧ len ≤ 9223372036854775807 := by
  obtain ⟨m0, hm0⟩ := h
  have hz : ∃ R : List Fil, Sl W (.slice a len cap) R.length 5 (fun b o i => FileC W b o (R.getD i default)) := by
    refine open_sl (H := H) (enc := enc) (m := m0) (x := (d, p)) (default : Fil) (fun b o y => FileC W b o y) Try.underlying22 (by kernel_rfl) (by omega) ?_ (by simpa [Value.cells] using hm0)
    intro b o cs m x hl hc h
    obtain ⟨xs, n, _, _, _, hxl, hx⟩ := DataW.trod_struct Try.underlying66 h
    match cs, hl with
    | [v0, v1, v2, v3, v4], _ =>
      have q0 : DataW.trod enc Try.prog W 0 (fun _ => true) true n 21 [v0] = xs[0]? := by have q : DataW.trod enc Try.prog W 0 (fun _ => true) true n 21 ((([v0, v1, v2, v3, v4] : List Value).drop 0).take (Try.prog.cellsOf 21)) = xs[0]? := hx 0 _ rfl; rw [cc21] at q; exact q
      have q1 : DataW.trod enc Try.prog W 0 (fun _ => true) true n 4 [v1] = xs[1]? := by have q : DataW.trod enc Try.prog W 0 (fun _ => true) true n 4 ((([v0, v1, v2, v3, v4] : List Value).drop 1).take (Try.prog.cellsOf 4)) = xs[1]? := hx 1 _ rfl; rw [cc4] at q; exact q
      have q2 : DataW.trod enc Try.prog W 0 (fun _ => true) true n 4 [v2] = xs[2]? := by have q : DataW.trod enc Try.prog W 0 (fun _ => true) true n 4 ((([v0, v1, v2, v3, v4] : List Value).drop 2).take (Try.prog.cellsOf 4)) = xs[2]? := hx 2 _ rfl; rw [cc4] at q; exact q
      have q3 : DataW.trod enc Try.prog W 0 (fun _ => true) true n 63 [v3] = xs[3]? := by have q : DataW.trod enc Try.prog W 0 (fun _ => true) true n 63 ((([v0, v1, v2, v3, v4] : List Value).drop 3).take (Try.prog.cellsOf 63)) = xs[3]? := hx 3 _ rfl; rw [cc63] at q; exact q
      have q4 : DataW.trod enc Try.prog W 0 (fun _ => true) true n 64 [v4] = xs[4]? := by have q : DataW.trod enc Try.prog W 0 (fun _ => true) true n 64 ((([v0, v1, v2, v3, v4] : List Value).drop 4).take (Try.prog.cellsOf 64)) = xs[4]? := hx 4 _ rfl; rw [cc64] at q; exact q
      have hxl : xs.length = 5 := hxl
      rw [List.getElem?_eq_getElem (by omega)] at q0 q1 q2 q3 q4
      obtain ⟨n0, e0, _, w0⟩ := DataW.trod_int Try.underlying21 q0
      obtain ⟨n1, e1, _⟩ := DataW.trod_bool Try.underlying4 q1
      obtain ⟨n2, e2, _⟩ := DataW.trod_bool Try.underlying4 q2
      obtain ⟨R, hR⟩ := openRecs q3
      obtain ⟨P, hP⟩ := openParts q4
      have e0 : v0 = .int .i32 n0 := by simpa using e0
      have e1 : v1 = .bool n1 := by simpa using e1
      have e2 : v2 = .bool n2 := by simpa using e2
      subst e0 e1 e2
      exact ⟨⟨n0, n1, n2, R, P⟩, v3, v4, hc 0 (by omega), hc 1 (by omega), hc 2 (by omega), hc 3 (by omega), hc 4 (by omega), bi32 w0, hR, hP⟩
  obtain ⟨R, hR⟩ := hz
  have hR2 : FilesC W (.slice a len cap) R := hR
  obtain ⟨a2, c2, e, h1, h2, _⟩ := Sl.len hR
  injection e with _ e2 _
  exact ⟨R, hR2, e2.symm, by omega⟩
set_option maxRecDepth 100000 in
theorem openU32 {v : Value} {d : DataW H} {p : List MemPlace} {r : Reach} {b0 : Nat} (hv : Value.okWide Try.prog W r b0 23 v) (h : DataW.Trod enc Try.prog W 0 (fun _ => true) true 23 v d p) : ∃ k : Nat, v = .int .u32 (k : Int) ∧ k ≤ 4294967295 := by
  obtain ⟨n, rfl⟩ := okWide_int Try.underlying23 hv
  obtain ⟨m, hm⟩ := h
  obtain ⟨n0, e0, _, w0⟩ := DataW.trod_int Try.underlying23 hm
  have e0 : n = n0 := by simpa [Value.cells] using e0
  subst e0
  obtain ⟨k0, rfl, b0⟩ := bu32 w0
  exact ⟨k0, rfl, b0⟩
set_option maxRecDepth 100000 in
theorem openU8 {v : Value} {d : DataW H} {p : List MemPlace} {r : Reach} {b0 : Nat} (hv : Value.okWide Try.prog W r b0 5 v) (h : DataW.Trod enc Try.prog W 0 (fun _ => true) true 5 v d p) : ∃ k : Nat, v = .int .u8 (k : Int) ∧ k ≤ 255 := by
  obtain ⟨n, rfl⟩ := okWide_int Try.underlying5 hv
  obtain ⟨m, hm⟩ := h
  obtain ⟨n0, e0, _, w0⟩ := DataW.trod_int Try.underlying5 hm
  have e0 : n = n0 := by simpa [Value.cells] using e0
  subst e0
  obtain ⟨k0, rfl, b0⟩ := bu8 w0
  exact ⟨k0, rfl, b0⟩
end
end Go.Proofs.Ytgnccfofhcbjjaa.lk
