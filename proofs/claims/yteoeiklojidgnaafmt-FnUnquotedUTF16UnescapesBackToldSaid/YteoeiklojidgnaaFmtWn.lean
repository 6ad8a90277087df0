/-
  A new printer and the reading of its output over this seat's program.
  Conditions: none.
-/
import Derived.Test.YteoeiklojidgnaaFmtWst
import Derived.Laws.Tables
namespace Go.Proofs.YteoeiklojidgnaaFmt.uw
open Go.ChangeShapes Go.WideShapes Go.ChangeAt Go.RowKit
open kit pr uq

/-- a struct built whole, its content under a name -/
theorem wpList_build1 {ops : Array Oper} {rest : List Oper} {o : Oper} {a : Act} {w : World} {Q : Exit → Act → World → Prop} (hg : o.guard = none) (t : TypeId) (parts : Array (Nat × Operand)) (ho : o.op = .build t parts)
    (L : List (Nat × Value)) (hL : (parts.map fun (i, x) => (i, a.eval x)).toList = L) (CS : Array Value) (hCS : Tryf.prog.built t L = some CS) (h : wpList Tryf.prog ops Q rest (a.put o.dst (.agg CS)) w) : wpList Tryf.prog ops Q (o :: rest) a w := by
  refine wpList_build hg t parts ho (by rw [hL, hCS]; rfl) ?_
  rw [hL, hCS]
  exact h
def optA (asc : Bool) (feat lim : Int) : Array Value := #[.nilFunc, .map none, .map none, .map none, .pointer none, .slice none 0 0, .int .u32 0, .int .u32 0, .int .u32 0, .int .u32 0, .int .u32 0, .int .u32 0, .int .u64 feat, .int .i64 0, .int .i64 lim, .int .u8 0, .bool false, .bool false, .bool false, .bool asc, .int .u8 0, .int .u8 0, .bool false, .bool false, .int .u8 0]
/-- what the new printer is known by -/
structure NewP (w : World) (a : Option Addr) (c : Nat) (xs : List Int) (asc : Bool) (feat lim : Int) (cs : List Value) (w2 : World) : Prop where
  pr : Pr w2 w.heap.size cs a c xs
  asc : cs[31]? = some (.bool asc)
  feat : cs[24]? = some (.int .u64 feat)
  lim : cs[26]? = some (.int .i64 lim)
  c69 : cs[69]? = some (.int .i64 0)
  c70 : cs[70]? = some (.int .i64 0)
  kept : Kept w w2
set_option maxRecDepth 100000 in
set_option maxHeartbeats 2000000 in
theorem newP (w : World) (a : Option Addr) (c : Nat) (xs : List Int) (asc : Bool) (feat lim : Int) (hown : w.ownsRow 0 5 1 (.slice a xs.length c) xs.length (xs.map (Value.int .u8))) :
    Calls Tryf.prog 10 #[.slice a xs.length c, .bool asc, .int .u64 feat, .int .i64 lim] w fun e w2 => e = .returned (.pointer (some ⟨w.heap.size, 0, none⟩)) ∧ ∃ cs, NewP w a c xs asc feat lim cs w2 := by
  have HO := Lib.hid hown
  clear hown
  generalize hl : xs.length = len at *
  have HL := Lib.hid hl
  clear hl
  obtain ⟨CS, hCS, h9⟩ : ∃ CS : Array Value, Tryf.prog.built 88 [(9, .slice a len c), (12, .agg (optA asc feat lim))] = some CS ∧ (CS[9]?, CS[31]?, CS[24]?, CS[26]?, CS[69]?, CS[70]?) = (some (.slice a len c), some (.bool asc), some (.int .u64 feat), some (.int .i64 lim), some (.int .i64 0), some (.int .i64 0)) :=
    Option.map_eq_some_iff.1 (show (Tryf.prog.built 88 [(9, .slice a len c), (12, .agg (optA asc feat lim))]).map (fun CS => (CS[9]?, CS[31]?, CS[24]?, CS[26]?, CS[69]?, CS[70]?)) = some (some (.slice a len c), some (.bool asc), some (.int .u64 feat), some (.int .i64 lim), some (.int .i64 0), some (.int .i64 0)) by kernel_rfl)
  have HCS := Lib.hid hCS
  have E9 := Lib.hid h9
  clear hCS h9
  go_enter Tryf.func10, Tryf.ntmps10
  go_wp2_with (refine wpList_build1 rfl 88 _ rfl [(9, .slice a len c), (12, .agg (optA asc feat lim))] ?hL CS HCS.out ?_)
  case hL => kernel_rfl
  go_ret
  have e := E9.out
  simp only [Prod.mk.injEq] at e
  obtain ⟨e9, e31, e24, e26, e69, e70⟩ := e
  have hb : Blk (w.alloc (.cells CS 88)) w.heap.size 88 CS.toList := by
    have := heap_alloc_new w (.cells CS 88)
    simpa [Blk] using this
  exact ⟨rfl, CS.toList, ⟨hb, by rw [HL.out]; simpa [J] using e9, by rw [HL.out]; exact HO.out.alloc _⟩, by simpa using e31, by simpa using e24, by simpa using e26, by simpa using e69, by simpa using e70, (Kept.refl _).alloc _⟩
theorem zzjs (w : World) (g : Nat) (cs : List Value) (a : Option Addr) (c : Nat) (xs : List Int) (h : Pr w g cs a c xs) :
    Calls Tryf.prog 12 #[.pointer (some ⟨g, 0, none⟩)] w fun e w' => e = .returned (.slice a xs.length c) ∧ w = w' := by
  have hc : w.cell? ⟨g, 9, none⟩ = some (.slice a xs.length c) := h.jcell
  clear h
  generalize xs.length = n at *
  go_enter Tryf.func12, Tryf.ntmps12
  go_wp2
  go_ret
  exact ⟨rfl, rfl⟩
end Go.Proofs.YteoeiklojidgnaaFmt.uw
