/-
  What the seat's one listed variable (ast.InvalidRef) gives the walks: its two cells.
  Conditions: the variable reads as the given Rows text lists it.
-/
import Derived.Test.YtilhckihpgfkfaaDoorRows
import Derived.ProofKit
import Derived.OpenShut
import Derived.ChangeSame
import Derived.FnData
namespace Go.Proofs.YtilhckihpgfkfaaDoor.door
open Go.ChangeShapes Go.WideShapes Go.ChangeAt Go.RowKit

abbrev TREF : Nat := 125
theorem cells_of {H : Type} {enc : TypeId × Value → H} {W : World} {n : String} {cs : Array Value} {sp : Nat → Bool} {hd : Bool} {fuel base : Nat} {p : List MemPlace} (hg : Tryd.prog.globalNamed n = some 0) (hv : W.var? Tryd.prog n = some cs)
    (h : DataW.trod enc Tryd.prog W base sp hd fuel TREF cs.toList = some (.agg [.lit (.int .u32 4294967295), .lit (.int .u32 4294967295)], p)) :
    W.cell? ⟨0, 0, none⟩ = some (.int .u32 4294967295) ∧ W.cell? ⟨0, 1, none⟩ = some (.int .u32 4294967295) := by
  obtain ⟨y0, y1, n, e, hl, h0, h1⟩ := trod_struct2 Tryd.underlying125 h
  have c1 : Tryd.prog.cellsOf 23 = 1 := by kernel_rfl
  have c2 : Tryd.prog.cellsOf 125 = 2 := by kernel_rfl
  simp only [c1] at h0 h1
  obtain ⟨k0, e0, f0, _⟩ := DataW.trod_int Tryd.underlying23 h0
  obtain ⟨k1, e1, f1, _⟩ := DataW.trod_int Tryd.underlying23 h1
  simp only [Prod.mk.injEq, DataW.agg.injEq, List.cons.injEq, and_true] at e
  obtain ⟨⟨a0, a1⟩, _⟩ := e
  rw [f0] at a0
  rw [f1] at a1
  simp at a0 a1
  subst a0 a1
  obtain ⟨l⟩ := cs
  rw [c2] at hl
  match l, hl with
  | [x, y], _ =>
    simp at e0 e1
    subst e0 e1
    exact ⟨by simpa using World.var?_cell hg hv 0, by simpa using World.var?_cell hg hv 1⟩
end Go.Proofs.YtilhckihpgfkfaaDoor.door
