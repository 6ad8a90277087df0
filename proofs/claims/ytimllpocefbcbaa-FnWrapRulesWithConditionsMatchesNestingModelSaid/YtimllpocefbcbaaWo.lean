/-
  The argument of FnWrapRulesWithConditionsMatchesNestingModel opened over this seat's program.
  Conditions: none.
-/
import Derived.Test.YtimllpocefbcbaaWc
import Derived.Lib.SmallJoins
namespace Go.Proofs.Ytimllpocefbcbaa.wr
open Go.ChangeShapes Go.WideShapes Go.ChangeAt Go.RowKit
open kit

theorem cc26 : Try.prog.cellsOf 26 = 1 := by kernel_rfl
theorem cc3 : Try.prog.cellsOf 3 = 1 := by kernel_rfl
section
variable {H : Type} {enc : TypeId × Value → H} {W : World}
/-- a slice of one-cell elements that reads as a row -/
theorem row_of {α : Type} {v : Value} {f : α → Value} {d : α} {R : List α} (h : Sl W v R.length 1 (fun b o i => W.cell? ⟨b, o, none⟩ = some (f (R.getD i d)))) : ∃ a c, v = .slice a R.length c ∧ Row W a R.length c (R.map f) := by
  obtain ⟨a, c, h1, h2, h3, h4, h5⟩ := h
  refine ⟨a, c, h1, by simp, h2, h3, h4, fun hn => ?_⟩
  obtain ⟨b, off, ha, hb, hc⟩ := h5 hn
  refine ⟨b, off, ha, hb, fun i hi => ?_⟩
  have hi2 : i < R.length := by simpa using hi
  have := hc i hi2
  rw [Nat.mul_one] at this
  rw [this]
  simp [hi2]
set_option maxRecDepth 100000 in
theorem openBools {m : Nat} {v : Value} {x : DataW H × List MemPlace} (h : DataW.trod enc Try.prog W 0 (fun _ => true) true m 26 [v] = some x) : ∃ a c, ∃ R : List Bool, v = .slice a R.length c ∧ Row W a R.length c (R.map Value.bool) := by
  have hz : ∃ R : List Bool, Sl W v R.length 1 (fun b o i => W.cell? ⟨b, o, none⟩ = some (.bool (R.getD i false))) := by
    refine open_sl false (fun b o y => W.cell? ⟨b, o, none⟩ = some (.bool y)) Try.underlying26 (by kernel_rfl) (by omega) ?_ h
    intro b o cs m x hl hc h
    match cs, hl with
    | [v0], _ =>
      obtain ⟨s, e0, _⟩ := DataW.trod_bool Try.underlying4 h
      have e0 : v0 = .bool s := by simpa using e0
      subst e0
      exact ⟨s, hc 0 (by omega)⟩
  obtain ⟨R, hR⟩ := hz
  obtain ⟨a, c, h1, h2⟩ := row_of hR
  exact ⟨a, c, R, h1, h2⟩
set_option maxRecDepth 100000 in
theorem openConds {a : Option Addr} {len cap : Nat} {d : DataW H} {p : List MemPlace} (h : DataW.Trod enc Try.prog W 0 (fun _ => true) true 22 (.slice a len cap) d p) : ∃ F, CndsC W (.slice a len cap) F ∧ F.length = len := by
  obtain ⟨m0, hm0⟩ := h
  have hz : ∃ R : List Cnd, Sl W (.slice a len cap) R.length 2 (fun b o i => CndC W b o (R.getD i default)) := by
    refine open_sl (H := H) (enc := enc) (m := m0) (x := (d, p)) (default : Cnd) (fun b o y => CndC W b o y) Try.underlying22 (by kernel_rfl) (by omega) ?_ (by simpa [Value.cells] using hm0)
    intro b o cs m x hl hc h
    obtain ⟨xs, n, _, _, _, hxl, hx⟩ := DataW.trod_struct Try.underlying28 h
    match cs, hl with
    | [v0, v1], _ =>
      have q0 : DataW.trod enc Try.prog W 0 (fun _ => true) true n 26 [v0] = xs[0]? := by have q : DataW.trod enc Try.prog W 0 (fun _ => true) true n 26 ((([v0, v1] : List Value).drop 0).take (Try.prog.cellsOf 26)) = xs[0]? := hx 0 _ rfl; rw [cc26] at q; exact q
      have q1 : DataW.trod enc Try.prog W 0 (fun _ => true) true n 3 [v1] = xs[1]? := by have q : DataW.trod enc Try.prog W 0 (fun _ => true) true n 3 ((([v0, v1] : List Value).drop 1).take (Try.prog.cellsOf 3)) = xs[1]? := hx 1 _ rfl; rw [cc3] at q; exact q
      have hxl : xs.length = 2 := hxl
      rw [List.getElem?_eq_getElem (by omega)] at q0 q1
      obtain ⟨a1, c1, R1, e1, r1⟩ := openBools q0
      obtain ⟨n1, e2, _, _⟩ := DataW.trod_int Try.underlying3 q1
      have e2 : v1 = .int .i64 n1 := by simpa using e2
      subst e1 e2
      exact ⟨⟨R1, n1⟩, a1, c1, hc 0 (by omega), hc 1 (by omega), r1⟩
  obtain ⟨R, hR⟩ := hz
  have hR2 : CndsC W (.slice a len cap) R := hR
  obtain ⟨a2, c2, e, h1, h2, _⟩ := Sl.len hR
  injection e with _ e2 _
  exact ⟨R, hR2, e2.symm⟩
end
end Go.Proofs.Ytimllpocefbcbaa.wr
