/-
  The worker's run to its send.
  Conditions: what it reads is there.
-/
import Derived.Test.YtgjhmbbbkkidlaaGreatDoorWb
import Derived.Conc.Own4
import Derived.Test.YtgjhmbbbkkidlaaGreatDoorWc
namespace Go.Proofs.YtgjhmbbbkkidlaaGreatDoor.hash
open Go.ChangeShapes Go.WideShapes Go.ChangeAt Go.RowKit
open Go.Proofs.YtgjhmbbbkkidlaaGreatDoor.kit
open Go.Conc (G baseD)
noncomputable def body18 : Code := Tryz.f18.body.getD .skip
noncomputable def ops34 : Array Oper := match tailC 8 body18 with
  | .region _ ops _ => ops
  | _ => #[]
theorem tail18 : tailC 8 body18 = .region 34 ops34 false := rfl
/-- the worker stands at its send -/
structure AtSend (v : World) (path : ByteArray) (ls : List (List Int)) (ch : Nat) (a : Act) (w : World) : Prop where
  d : a.defers = []
  c : a.tmps[184]? = some (.chan (some ch))
  ex : ∃ g cp, a.tmps[186]? = some (.slice (some ⟨g, 0, none⟩) 8 cp) ∧ Bytes w g 0 (sumB (fin path ls)) ∧ w.frozen? ⟨g, 0, none⟩ = false
theorem worker_runs (v : World) (lb cb off ch : Nat) (path : ByteArray) (ls : List (List Int)) (h : Rd v lb cb off path ls) (cs : List Frame) :
    ∃ a w, AtSend v path ls ch a w ∧ Steps Tryz.prog (lone ((baseD 18).at { tmps := #[.pointer (some ⟨lb, 0, none⟩), .pointer (some ⟨cb, off, none⟩), .chan (some ch)] ++ Array.replicate 184 undef, defers := [] } [.code body18]) cs v) (lone ((baseD 18).at a [.inRegion ops34 [3]]) cs w) := by
  obtain ⟨a, w, ⟨d, hz, h2, h6, hd, hb, hk⟩, hs⟩ := worker_gets v lb cb off ch path ls h body18 rfl (baseD 18) [] cs
  rw [tail18] at hs
  have e0 : ops34[0]? = some ⟨some 184, .move (.tmp 2), 149, "linker.go:6903", #[], none⟩ := rfl
  have e1 : ops34[1]? = some ⟨some 185, .move (.tmp 6), 151, "linker.go:6903", #[], none⟩ := rfl
  obtain ⟨o2, e2, o2op, o2d, o2g⟩ : ∃ o2, ops34[2]? = some o2 ∧ o2.op = .call { callee := .value (.func 23), args := #[.tmp 185, .const (.slice none 0 0)], argTypes := #[151, 24] } ∧ o2.dst = some 186 ∧ o2.guard = none := ⟨_, rfl, rfl, rfl, rfl⟩
  have v2 : a.eval (.tmp 2) = .chan (some ch) := by simp [Act.eval, Array.getD_eq_getD_getElem?, h2]
  have v6 : a.eval (.tmp 6) = .pointer (some ⟨d, 0, none⟩) := by simp [Act.eval, Array.getD_eq_getD_getElem?, h6]
  have hs0 : Steps Tryz.prog (lone ((baseD 18).at a [.code (.region 34 ops34 false)]) cs w) (lone ((baseD 18).at a [.inRegion ops34 [0, 1, 2, 3]]) cs w) := .one step_region
  have hs1 := steps_value (P := Tryz.prog) (b := baseD 18) (a := a) (k := []) (cs := cs) (w := w) (w' := w) (rest := [1, 2, 3]) (v := .chan (some ch)) e0 rfl (by decide) (by rw [← v2]; rfl)
  have v6' : (a.put (some 184) (.chan (some ch))).eval (.tmp 6) = .pointer (some ⟨d, 0, none⟩) := (Act.eval_put (fun d e => by cases e; simp)).trans v6
  have hs2 := steps_value (P := Tryz.prog) (b := baseD 18) (a := a.put (some 184) (.chan (some ch))) (k := []) (cs := cs) (w := w) (w' := w) (rest := [2, 3]) (v := .pointer (some ⟨d, 0, none⟩)) e1 rfl (by decide) (by rw [← v6']; rfl)
  generalize ha2 : (a.put (some 184) (.chan (some ch))).put (some 185) (.pointer (some ⟨d, 0, none⟩)) = a2 at hs2
  have hd2 : a2.defers = [] := by rw [← ha2]; exact hd
  have g184 : a2.tmps[184]? = some (.chan (some ch)) := by rw [← ha2]; simp [Act.put, hz]
  have g185 : a2.tmps[185]? = some (.pointer (some ⟨d, 0, none⟩)) := by rw [← ha2]; simp [Act.put, hz]
  have z2 : a2.tmps.size = 187 := by rw [← ha2]; simp [Act.put, hz]
  have hr2 : (execOp a2.eval o2).run Tryz.prog w = .ok (.enter 23 #[.pointer (some ⟨d, 0, none⟩), .slice none 0 0]) w := by
    rw [Go.Conc.run_call_body o2op Tryz.func23 (by kernel_rfl) (by kernel_rfl)]
    simp [Act.eval, Array.getD_eq_getD_getElem?, g185]
  have hw2 : Region.wanted o2 (yielded ops34 a2.tmps) = true := by simp [Region.wanted, o2g]
  obtain ⟨x, w2, ⟨g, cp, rfl, hg, hB, hf⟩, hs3⟩ := steps_call (P := Tryz.prog) (b := baseD 18) (a := a2) (k := []) (cs := cs) (w := w) (rest := [3]) (R := fun x w2 => ∃ g cp, x = .slice (some ⟨g, 0, none⟩) 8 cp ∧ w.heap.size ≤ g ∧ Bytes w2 g 0 (sumB (fin path ls)) ∧ w2.frozen? ⟨g, 0, none⟩ = false) e2 hw2 (by decide) hr2
    ((bytes_calls (fin_ok path ls) hb).mono fun e w2 ⟨⟨g, c, e1, e2, e3, e4⟩, _⟩ => ⟨_, e1, g, c, rfl, e2, e3, e4⟩)
  rw [o2d] at hs3
  refine ⟨_, w2, ⟨?_, ?_, g, cp, ?_, hB, hf⟩, hs.trans (hs0.trans (hs1.trans (hs2.trans hs3)))⟩
  · exact hd2
  · simpa [Act.put] using g184
  · simp [Act.put, z2]
end Go.Proofs.YtgjhmbbbkkidlaaGreatDoor.hash
