/-
  Contracts of the statement builders and readers over this seat's program.
  Conditions: the blocks that are read are known whole.
-/
import Derived.Test.YtolphikbppmobabBlk
import Derived.Laws.Tables
import Derived.LoopTactic
import Derived.Outline
import Derived.Deep.QuietTactic
import Derived.BigQuiet
import Derived.Deep.RegionHeld3
import Derived.Lib.Hide
namespace Go.Proofs.Ytolphikbppmobab.mj
open Go.ChangeShapes Go.WideShapes Go.ChangeAt Go.RowKit
open kit

def PX (g : Nat) : Value := .iface 66 (.pointer (some ⟨g, 0, none⟩))
def PL (g : Nat) : Value := .iface 44 (.pointer (some ⟨g, 0, none⟩))
def PB (g : Nat) : Value := .iface 50 (.pointer (some ⟨g, 0, none⟩))

theorem assertXX (g : Nat) (W : World) : (Instr.typeAssert (PX g) 34 66 true).run Try.prog W = .ok (.tuple #[.pointer (some ⟨g, 0, none⟩), .bool true]) W := by kernel_rfl
theorem assertLX (g : Nat) (W : World) : (Instr.typeAssert (PL g) 34 66 true).run Try.prog W = .ok (.tuple #[.pointer none, .bool false]) W := by kernel_rfl
theorem assertLL (g : Nat) (W : World) : (Instr.typeAssert (PL g) 34 44 true).run Try.prog W = .ok (.tuple #[.pointer (some ⟨g, 0, none⟩), .bool true]) W := by kernel_rfl
theorem assertXL (g : Nat) (W : World) : (Instr.typeAssert (PX g) 34 44 true).run Try.prog W = .ok (.tuple #[.pointer none, .bool false]) W := by kernel_rfl
theorem assertBB (g : Nat) (W : World) : (Instr.typeAssert (PB g) 53 50 true).run Try.prog W = .ok (.tuple #[.pointer (some ⟨g, 0, none⟩), .bool true]) W := by kernel_rfl

theorem exprStmt (i : Int) (w : World) :
    Calls Try.prog 13 #[.int .i32 i] w fun e w' => ∃ g, e = .returned (.agg #[PX g, .int .i32 i]) ∧ Blk w' g 69 [.nilIface, .int .i32 0, .bool false] ∧ w.heap.size ≤ g ∧ Kept w w' := by
  go_enter Try.func13, Try.ntmps13
  go_wp2
  refine bodyPost_ret (v := .agg #[PX (w.heap.size + 1), .int .i32 i]) (by simp [results, Try.results13, go_sem, PX]) rfl ⟨w.heap.size + 1, rfl, ?_, by omega, ((Kept.refl _).alloc _).alloc _⟩
  have := Blk.new (w.alloc (.cells #[PX (w.heap.size + 1), .int .i32 i] 36)) 69 [.nilIface, .int .i32 0, .bool false]
  simpa [PX] using this

theorem asExprX (g : Nat) (i : Int) (w : World) (h : Blk w g 69 [.nilIface, .int .i32 0, .bool false]) :
    Calls Try.prog 12 #[.agg #[PX g, .int .i32 i]] w fun e w' => e = .returned (.bool true) ∧ Kept w w' := by
  have c0 := (h.alloc (.cells #[PX g, .int .i32 i] 36)).cell 0
  simp only [List.getElem?_cons_zero] at c0
  have ha := assertXX g
  clear h
  go_enter Try.func12, Try.ntmps12
  go_wp2
  go_ret
  exact ⟨rfl, (Kept.refl _).alloc _⟩

theorem asLocalX (g : Nat) (i : Int) (w : World) :
    Calls Try.prog 10 #[.agg #[PX g, .int .i32 i]] w fun e w' => e = .returned (.tuple #[.bool false, .int .u8 0, .bool false, .int .i64 0]) ∧ Kept w w' := by
  have ha := assertXL g
  go_enter Try.func10, Try.ntmps10
  go_wp2
  exact bodyPost_ret (v := .tuple #[.bool false, .int .u8 0, .bool false, .int .i64 0]) (by simp [results, Try.results10, go_sem]) rfl ⟨rfl, (Kept.refl _).alloc _⟩

theorem asLocalL (g : Nat) (i : Int) (w : World) (k : Int) (x t : Bool) (a : Option Addr) (n c : Nat) (h : Blk w g 49 [.slice a n c, .int .u8 k, .bool x, .bool t]) :
    Calls Try.prog 10 #[.agg #[PL g, .int .i32 i]] w fun e w' => e = .returned (.tuple #[.bool true, .int .u8 k, .bool x, .int .i64 (n : Int)]) ∧ Kept w w' := by
  have hb := h.alloc (.cells #[PL g, .int .i32 i] 36)
  have c0 := hb.cell 0
  have c1 := hb.cell 1
  have c2 := hb.cell 2
  simp only [List.getElem?_cons_zero, List.getElem?_cons_succ] at c0 c1 c2
  have ha := assertLL g
  clear h hb
  go_enter Try.func10, Try.ntmps10
  go_wp2
  go_region
  go_wp2
  exact bodyPost_ret (v := .tuple #[.bool true, .int .u8 k, .bool x, .int .i64 (n : Int)]) (by simp [results, Try.results10, go_sem]) rfl ⟨rfl, ((Kept.refl _).alloc _).drewN _⟩

/-- reading the d-th declaration's identifier -/
theorem declRef (g : Nat) (i : Int) (w : World) (k : Int) (x t : Bool) (b off d n c r s0 s1 : Nat) (v2 v3 v4 : Value) (hd : d < n) (hn : n ≤ 65536) (h : Blk w g 49 [.slice (some ⟨b, off, none⟩) n c, .int .u8 k, .bool x, .bool t])
    (h0 : w.cell? ⟨b, off + d * 4, none⟩ = some (PB r)) (hr : Blk w r 65 [.int .u32 (s0 : Int), .int .u32 (s1 : Int)]) :
    Calls Try.prog 11 #[.agg #[PL g, .int .i32 i], .int .i64 (d : Int)] w fun e w' => e = .returned (.tuple #[.bool true, .int .u32 (s0 : Int), .int .u32 (s1 : Int)]) ∧ Kept w w' := by
  have hb := h.alloc (.cells #[PL g, .int .i32 i] 36)
  have c0 := hb.cell 0
  have hq := hr.alloc (.cells #[PL g, .int .i32 i] 36)
  have c1 := hq.cell 0
  have c2 := hq.cell 1
  have c3 := (((Kept.refl w).alloc (.cells #[PL g, .int .i32 i] 36))).cell h0
  simp only [List.getElem?_cons_zero, List.getElem?_cons_succ] at c0 c1 c2
  have ha := assertLL g
  have hbb := assertBB r
  clear h hb h0 hr hq
  go_enter Try.func11, Try.ntmps11
  go_wp2
  go_region
  go_wp2
  exact bodyPost_ret (v := .tuple #[.bool true, .int .u32 (s0 : Int), .int .u32 (s1 : Int)]) (by simp [results, Try.results11, go_sem]) rfl ⟨rfl, ((Kept.refl _).alloc _).drewN _⟩
end Go.Proofs.Ytolphikbppmobab.mj
