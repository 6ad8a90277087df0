/-
  The arguments of FnImportConditionsEqualIgnoresWhitespaceAndIsSymmetric opened over this seat's program.
  Conditions: none.
-/
import Derived.Test.YtdnpdfiiajjcnaaIc
import Derived.Lib.SmallJoins
namespace Go.Proofs.Ytdnpdfiiajjcnaa.ic
open Go.ChangeShapes Go.WideShapes Go.ChangeAt Go.RowKit
open kit

theorem bu8 {n : Int} (h : (Lit.int .u8 n).wf = true) : 0 ≤ n ∧ n ≤ 255 := by
  simp only [Lit.wf, Bool.and_eq_true, decide_eq_true_eq] at h
  exact h
theorem ccS : Try.prog.cellsOf 29 = 1 := by kernel_rfl
theorem ccU : Try.prog.cellsOf 30 = 1 := by kernel_rfl
section
variable {H : Type} {enc : TypeId × Value → H} {W : World}
/-- a slice of one-cell elements that reads as a row -/
theorem row_of {α : Type} {v : Value} {f : α → Value} {d : α} {R : List α} (h : Sl W v R.length 1 (fun b o i => W.cell? ⟨b, o, none⟩ = some (f (R.getD i d)))) : ∃ a c, v = .slice a R.length c ∧ Row W a R.length c (R.map f) := by
  obtain ⟨a, c, h1, h2, h3, h4, h5⟩ := h
  refine ⟨a, c, h1, by simp, h2, h3, h4, fun hn => ?_⟩
  obtain ⟨b, off, ha, hb, hc⟩ := h5 hn
  refine ⟨b, off, ha, hb, fun i hi => ?_⟩
  have hi2 : i < R.length := by simpa using hi
  have := hc i hi2
  rw [Nat.mul_one] at this
  rw [this]
  simp [hi2]
set_option maxRecDepth 100000 in
theorem openStrs {m : Nat} {v : Value} {x : DataW H × List MemPlace} (h : DataW.trod enc Try.prog W 0 (fun _ => true) true m 29 [v] = some x) : ∃ a c, ∃ R : List ByteArray, v = .slice a R.length c ∧ Row W a R.length c (R.map Value.string) := by
  have hz : ∃ R : List ByteArray, Sl W v R.length 1 (fun b o i => W.cell? ⟨b, o, none⟩ = some (.string (R.getD i ByteArray.empty))) := by
    refine open_sl (ByteArray.empty) (fun b o y => W.cell? ⟨b, o, none⟩ = some (.string y)) Try.underlying29 (by kernel_rfl) (by omega) ?_ h
    intro b o cs m x hl hc h
    match cs, hl with
    | [v0], _ =>
      obtain ⟨s, e0, _, _⟩ := DataW.trod_string Try.underlying9 h
      have e0 : v0 = .string s := by simpa using e0
      subst e0
      exact ⟨s, hc 0 (by omega)⟩
  obtain ⟨R, hR⟩ := hz
  obtain ⟨a, c, h1, h2⟩ := row_of hR
  exact ⟨a, c, R, h1, h2⟩
set_option maxRecDepth 100000 in
theorem openU8s {m : Nat} {v : Value} {x : DataW H × List MemPlace} (h : DataW.trod enc Try.prog W 0 (fun _ => true) true m 30 [v] = some x) : ∃ a c, ∃ R : List Int, v = .slice a R.length c ∧ Row W a R.length c (R.map (Value.int .u8)) ∧ ∀ z ∈ R, 0 ≤ z ∧ z ≤ 255 := by
  have hz : ∃ R : List {z : Int // 0 ≤ z ∧ z ≤ 255}, Sl W v R.length 1 (fun b o i => W.cell? ⟨b, o, none⟩ = some (.int .u8 (R.getD i ⟨0, by omega⟩).1)) := by
    have hinh : Inhabited {z : Int // 0 ≤ z ∧ z ≤ 255} := ⟨⟨0, by omega⟩⟩
    refine open_sl (⟨0, by omega⟩ : {z : Int // 0 ≤ z ∧ z ≤ 255}) (fun b o y => W.cell? ⟨b, o, none⟩ = some (.int .u8 y.1)) Try.underlying30 (by kernel_rfl) (by omega) ?_ h
    intro b o cs m x hl hc h
    match cs, hl with
    | [v0], _ =>
      obtain ⟨n0, e0, _, w0⟩ := DataW.trod_int Try.underlying5 h
      have e0 : v0 = .int .u8 n0 := by simpa using e0
      subst e0
      exact ⟨⟨n0, bu8 w0⟩, hc 0 (by omega)⟩
  obtain ⟨R, hR⟩ := hz
  obtain ⟨a, c, h1, h2⟩ := row_of (f := fun z : {z : Int // 0 ≤ z ∧ z ≤ 255} => Value.int .u8 z.1) hR
  refine ⟨a, c, R.map (·.1), by simpa using h1, ?_, fun z hz => ?_⟩
  · rw [List.map_map, List.length_map]; exact h2
  · obtain ⟨y, _, rfl⟩ := List.mem_map.1 hz; exact y.2
set_option maxRecDepth 100000 in
theorem openIcs {a : Option Addr} {len cap : Nat} {d : DataW H} {p : List MemPlace} (h : DataW.Trod enc Try.prog W 0 (fun _ => true) true 22 (.slice a len cap) d p) : ∃ F, IcsC W (.slice a len cap) F ∧ F.length = len ∧ len ≤ 9223372036854775807 := by
  obtain ⟨m0, hm0⟩ := h
  have hz : ∃ R : List Icw, Sl W (.slice a len cap) R.length 4 (fun b o i => IcC W b o (R.getD i default)) := by
    refine open_sl (H := H) (enc := enc) (m := m0) (x := (d, p)) (default : Icw) (fun b o y => IcC W b o y) Try.underlying22 (by kernel_rfl) (by omega) ?_ (by simpa [Value.cells] using hm0)
    intro b o cs m x hl hc h
    obtain ⟨xs, n, _, _, _, hxl, hx⟩ := DataW.trod_struct Try.underlying32 h
    match cs, hl with
    | [v0, v1, v2, v3], _ =>
      have q0 : DataW.trod enc Try.prog W 0 (fun _ => true) true n 29 [v0] = xs[0]? := by have q : DataW.trod enc Try.prog W 0 (fun _ => true) true n 29 ((([v0, v1, v2, v3] : List Value).drop 0).take (Try.prog.cellsOf 29)) = xs[0]? := hx 0 _ rfl; rw [ccS] at q; exact q
      have q1 : DataW.trod enc Try.prog W 0 (fun _ => true) true n 30 [v1] = xs[1]? := by have q : DataW.trod enc Try.prog W 0 (fun _ => true) true n 30 ((([v0, v1, v2, v3] : List Value).drop 1).take (Try.prog.cellsOf 30)) = xs[1]? := hx 1 _ rfl; rw [ccU] at q; exact q
      have q2 : DataW.trod enc Try.prog W 0 (fun _ => true) true n 29 [v2] = xs[2]? := by have q : DataW.trod enc Try.prog W 0 (fun _ => true) true n 29 ((([v0, v1, v2, v3] : List Value).drop 2).take (Try.prog.cellsOf 29)) = xs[2]? := hx 2 _ rfl; rw [ccS] at q; exact q
      have q3 : DataW.trod enc Try.prog W 0 (fun _ => true) true n 30 [v3] = xs[3]? := by have q : DataW.trod enc Try.prog W 0 (fun _ => true) true n 30 ((([v0, v1, v2, v3] : List Value).drop 3).take (Try.prog.cellsOf 30)) = xs[3]? := hx 3 _ rfl; rw [ccU] at q; exact q
      have hxl : xs.length = 4 := hxl
      rw [List.getElem?_eq_getElem (by omega)] at q0 q1 q2 q3
      obtain ⟨a1, c1, R1, e1, r1⟩ := openStrs q0
      obtain ⟨a2, c2, R2, e2, r2, z2⟩ := openU8s q1
      obtain ⟨a3, c3, R3, e3, r3⟩ := openStrs q2
      obtain ⟨a4, c4, R4, e4, r4, z4⟩ := openU8s q3
      subst e1 e2 e3 e4
      exact ⟨⟨R1, R2, R3, R4⟩, a1, c1, a2, c2, a3, c3, a4, c4, hc 0 (by omega), hc 1 (by omega), hc 2 (by omega), hc 3 (by omega), r1, r2, r3, r4, z2, z4⟩
  obtain ⟨R, hR⟩ := hz
  have hR2 : IcsC W (.slice a len cap) R := hR
  obtain ⟨a2, c2, e, h1, h2, _⟩ := Sl.len hR
  injection e with _ e2 _
  exact ⟨R, hR2, e2.symm, by omega⟩
end
end Go.Proofs.Ytdnpdfiiajjcnaa.ic
