/-
  Small words of my own over this seat's program: 'Kept w w2' says that w2 is w with at most new blocks beside what was there.
  Conditions: none.
-/
import Derived.Test.YtgjhmbbbkkidlaaGreatDoorRows
import Derived.WalkKit
import Derived.ProofKit
import Derived.OpenShut
import Derived.Below
import Derived.Lib.Hide
import Derived.WalkSmall
import Derived.WalkLawsBesides
namespace Go.Proofs.YtgjhmbbbkkidlaaGreatDoor.kit
open Go.ChangeShapes Go.WideShapes Go.ChangeAt Go.RowKit

/-- w2 is w but for new blocks (and draws). -/
def Kept (w w2 : World) : Prop := Below w.heap.size w w2

theorem Kept.refl (w : World) : Kept w w := Below.refl _ _
theorem Kept.size {w w2 : World} (h : Kept w w2) : w.heap.size ≤ w2.heap.size := Below.size h
theorem Kept.trans {a b c : World} (h : Kept a b) (g : Kept b c) : Kept a c := Below.trans h (Below.mono g h.size)
theorem Kept.alloc {a b : World} (h : Kept a b) (o : Obj) : Kept a (b.alloc o) := Below.alloc h h.size o
theorem Kept.drew {a b : World} (h : Kept a b) : Kept a b.drew := Below.drew h
theorem Kept.setCell {a b : World} (h : Kept a b) {p : Addr} (hp : a.heap.size ≤ p.block) (u : Value) : Kept a (b.setCell p u) := Below.setCell h hp u
theorem Kept.drewN {a b : World} (h : Kept a b) (n : Nat) : Kept a (b.drewN n) := below_drewN h n
theorem Kept.cell {w w2 : World} (h : Kept w w2) {a : Addr} {v : Value} (hc : w.cell? a = some v) : w2.cell? a = some v :=
  (Below.cell h (World.block_lt_of_cell? w a hc)).trans hc
theorem Kept.frozen {w w2 : World} (h : Kept w w2) {a : Addr} {v : Value} {b : Bool} (hc : w.cell? a = some v) (hf : w.frozen? a = b) : w2.frozen? a = b :=
  (Below.frozen h (World.block_lt_of_cell? w a hc)).trans hf
theorem Kept.below {w w2 : World} (h : Kept w w2) : Below w.heap.size w w2 := h
theorem Kept.of {w w2 : World} (h : Below w.heap.size w w2) : Kept w w2 := h

/-- 32-bit words: a shifted word and a low word join by addition. -/
theorem bools (b : Bool) : b = false ∨ b = true := by cases b <;> simp
end Go.Proofs.YtgjhmbbbkkidlaaGreatDoor.kit
