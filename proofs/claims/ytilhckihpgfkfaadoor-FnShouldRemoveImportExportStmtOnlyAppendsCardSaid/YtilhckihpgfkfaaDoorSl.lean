/-
  Small functions of the law over this seat's program: a statement of the prefix, the list with its prefix, the lists handed out, whether a statement is a bare expression.
  Conditions: the list is readable.
-/
import Derived.Test.YtilhckihpgfkfaaDoorSd
import Derived.Test.YtilhckihpgfkfaaDoorMk1
namespace Go.Proofs.YtilhckihpgfkfaaDoor.sr
open Go.ChangeShapes Go.WideShapes Go.ChangeAt Go.RowKit
open kit

/-- v is a statement that is a bare expression -/
def BareE (w : World) (v : Value) : Prop := ∃ p js, v = .iface 203 (.pointer (some ⟨p, 0, none⟩)) ∧ Blk w p 205 js ∧ js[0]? = some .nilIface
theorem BareE.kept {w w2 : World} {v : Value} (h : BareE w v) (k : Kept w w2) : BareE w2 v := by
  obtain ⟨p, js, e, h1, h2⟩ := h
  exact ⟨p, js, e, h1.kept k, h2⟩
def MadeS (w : World) (z : Int) (e : Ending) (w' : World) : Prop := (∃ v, e = .returned (.agg #[v, .int .i32 z]) ∧ BareE w' v ∧ v.oneCell' = true) ∧ Kept w w'
set_option maxRecDepth 100000 in
theorem exprStmt (w : World) (z : Int) : Calls Tryd.prog 6 #[.int .i32 z] w (MadeS w z) := by
  go_enter Tryd.func6, Tryd.ntmps6
  go_wp2_with fail
  exact bodyPost_ret (v := .agg #[.iface 203 (.pointer (some ⟨w.heap.size + 1, 0, none⟩)), .int .i32 z]) (by simp [results, Tryd.results6, go_sem]) rfl ⟨⟨_, rfl, ⟨_, _, rfl, Blk.new' _ 205 [.nilIface, .int .i32 0, .bool false] _ (by simp), rfl⟩, rfl⟩, ((Kept.refl w).alloc _).alloc _⟩
def MadeL (w : World) (a : Option Addr) (n c : Nat) (e : Ending) (w' : World) : Prop := (∃ lb, e = .returned (.pointer (some ⟨lb, 0, none⟩)) ∧ Blk w' lb 207 [.slice a n c, .slice none 0 0, .slice none 0 0] ∧ w.heap.size ≤ lb) ∧ Kept w w'
set_option maxRecDepth 100000 in
theorem newList (w : World) (a : Option Addr) (n c : Nat) : Calls Tryd.prog 7 #[.slice a n c] w (MadeL w a n c) := by
  go_enter Tryd.func7, Tryd.ntmps7
  go_wp2_with fail
  go_ret
  exact ⟨⟨_, rfl, Blk.new w 207 _, Nat.le_refl _⟩, (Kept.refl w).alloc _⟩
def GotL (w : World) (t : Value) (e : Ending) (w' : World) : Prop := e = .returned (.tuple #[t, .slice none 0 0, .slice none 0 0]) ∧ Kept w w'
set_option maxRecDepth 100000 in
theorem lists (w : World) (lb : Nat) (a : Option Addr) (n c : Nat) (h : Blk w lb 207 [.slice a n c, .slice none 0 0, .slice none 0 0]) : Calls Tryd.prog 9 #[.pointer (some ⟨lb, 0, none⟩)] w (GotL w (.slice a n c)) := by
  have x0 : w.cell? ⟨lb, 0, none⟩ = some (.slice a n c) := h.cell 0
  have x1 : w.cell? ⟨lb, 1, none⟩ = some (.slice none 0 0) := h.cell 1
  have x2 : w.cell? ⟨lb, 2, none⟩ = some (.slice none 0 0) := h.cell 2
  clear h
  go_enter Tryd.func9, Tryd.ntmps9
  go_wp2_with fail
  go_quiet (fail)
  go_wp2_with fail
  exact bodyPost_ret (v := .tuple #[.slice a n c, .slice none 0 0, .slice none 0 0]) (by simp [results, Tryd.results9, go_sem]) rfl ⟨rfl, (Kept.refl w).drewN _⟩
def Yes (w : World) (e : Ending) (w' : World) : Prop := e = .returned (.bool true) ∧ Kept w w'
set_option maxRecDepth 100000 in
theorem asExpr (w : World) (v : Value) (z : Int) (h : BareE w v) : Calls Tryd.prog 10 #[.agg #[v, .int .i32 z]] w (Yes w) := by
  obtain ⟨p, js, rfl, hb, hj⟩ := h
  have ta : ∀ W, Sem.run Tryd.prog (Instr.typeAssert (.iface 203 (.pointer (some ⟨p, 0, none⟩))) 30 203 true) W = .ok (.tuple #[.pointer (some ⟨p, 0, none⟩), .bool true]) W := fun W => by kernel_rfl
  have x0 : w.cell? ⟨p, 0, none⟩ = some .nilIface := by rw [hb.cell]; exact hj
  have hp := hb.lt
  have hq : ∀ W, (binOp .eql 72 .nilIface .nilIface).run Tryd.prog W = .ok (.bool true) W := fun W => by kernel_rfl
  clear hb hj
  go_enter Tryd.func10, Tryd.ntmps10
  go_wp2_with fail
  go_ret
  exact ⟨rfl, (Kept.refl w).alloc _⟩
end Go.Proofs.YtilhckihpgfkfaaDoor.sr
