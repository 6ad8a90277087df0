/-
  The digest's sum as bytes.
  Conditions: none.
-/
import Derived.StillTailTactics
import Derived.Test.YtgjhmbbbkkidlaaGreatDoorVk
namespace Go.Proofs.YtgjhmbbbkkidlaaGreatDoor.hash
open Go.ChangeShapes Go.WideShapes Go.ChangeAt Go.RowKit
open Go.Proofs.YtgjhmbbbkkidlaaGreatDoor.kit
noncomputable def sumB (s : St) : List Int := [sum64 s / 72057594037927936 % 256, sum64 s / 281474976710656 % 256, sum64 s / 1099511627776 % 256, sum64 s / 4294967296 % 256, sum64 s / 16777216 % 256, sum64 s / 65536 % 256, sum64 s / 256 % 256, sum64 s % 256]
theorem size_alloc (w : World) (o : Obj) : (w.alloc o).heap.size = w.heap.size + 1 := by unfold World.alloc; rw [Array.size_push]
theorem bytes_new (w : World) (l : List Int) (Z : Array Value) (t : TypeId) : Bytes (w.alloc (.cells ((l.map byte).toArray ++ Z) t)).drew w.heap.size 0 l := fun i hi => by
  have h := (Blk.new w t (l.map byte ++ Z.toList)).drew.cell i
  have e : (l.map byte ++ Z.toList).toArray = (l.map byte).toArray ++ Z := by simp
  rw [e] at h
  rw [Nat.zero_add, h, List.getElem?_append_left (by simpa using hi), List.getElem?_map, List.getElem?_eq_getElem hi]
  simp [List.getD, List.getElem?_eq_getElem hi]
theorem free_new (w : World) (l : List Int) (Z : Array Value) (t : TypeId) : (w.alloc (.cells ((l.map byte).toArray ++ Z) t)).drew.frozen? ⟨w.heap.size, 0, none⟩ = false := by
  have h := (Blk.new w t (l.map byte ++ Z.toList)).drew.free 0
  have e : (l.map byte ++ Z.toList).toArray = (l.map byte).toArray ++ Z := by simp
  rw [e] at h
  exact h
set_option maxRecDepth 100000 in
set_option maxHeartbeats 2000000 in
theorem bytes_calls {s : St} (hs : s.ok) {d : Nat} {w : World} (hb : Blk w d 194 (enc s)) :
    Calls Tryz.prog 23 #[.pointer (some ⟨d, 0, none⟩), .slice none 0 0] w fun e w' => (∃ g c, e = .returned (.slice (some ⟨g, 0, none⟩) 8 c) ∧ w.heap.size ≤ g ∧ Bytes w' g 0 (sumB s) ∧ w'.frozen? ⟨g, 0, none⟩ = false) ∧ Kept w w' := by
  have H1 := Lib.hid (sum64_calls hs hb)
  have HS : Hid (sumB s = [sum64 s / 72057594037927936 % 256, sum64 s / 281474976710656 % 256, sum64 s / 1099511627776 % 256, sum64 s / 4294967296 % 256, sum64 s / 16777216 % 256, sum64 s / 65536 % 256, sum64 s / 256 % 256, sum64 s % 256]) := Lib.hid (show _ from rfl)
  generalize sumB s = l at *
  generalize sum64 s = x at *
  go_enter Tryz.func23, Tryz.ntmps23
  go_wp2_with (go_at_call 26; refine H1.out.mono ?_; rintro e w1 ⟨rfl, hk1⟩)
  go_ret
  refine ⟨⟨w1.heap.size + 1, _, rfl, by have := hk1.size; omega, fun i hi => ?_, ?_⟩, ?_⟩
  · rw [HS.out] at hi ⊢
    generalize Question.cut _ _ - 8 = k
    have h := bytes_new (w1.alloc (Obj.cells #[Value.int IntKind.u8 (x / 72057594037927936 % 256), Value.int IntKind.u8 (x / 281474976710656 % 256), Value.int IntKind.u8 (x / 1099511627776 % 256), Value.int IntKind.u8 (x / 4294967296 % 256), Value.int IntKind.u8 (x / 16777216 % 256), Value.int IntKind.u8 (x / 65536 % 256), Value.int IntKind.u8 (x / 256 % 256), Value.int IntKind.u8 (x % 256)] 5)) [x / 72057594037927936 % 256, x / 281474976710656 % 256, x / 1099511627776 % 256, x / 4294967296 % 256, x / 16777216 % 256, x / 65536 % 256, x / 256 % 256, x % 256] (Builtin.zeroCells #[Value.int IntKind.u8 0] k) 5 i hi
    have e : (w1.alloc (Obj.cells #[Value.int IntKind.u8 (x / 72057594037927936 % 256), Value.int IntKind.u8 (x / 281474976710656 % 256), Value.int IntKind.u8 (x / 1099511627776 % 256), Value.int IntKind.u8 (x / 4294967296 % 256), Value.int IntKind.u8 (x / 16777216 % 256), Value.int IntKind.u8 (x / 65536 % 256), Value.int IntKind.u8 (x / 256 % 256), Value.int IntKind.u8 (x % 256)] 5)).heap.size = w1.heap.size + 1 := size_alloc _ _
    rw [e] at h
    exact h
  · have h := free_new (w1.alloc (Obj.cells #[Value.int IntKind.u8 (x / 72057594037927936 % 256), Value.int IntKind.u8 (x / 281474976710656 % 256), Value.int IntKind.u8 (x / 1099511627776 % 256), Value.int IntKind.u8 (x / 4294967296 % 256), Value.int IntKind.u8 (x / 16777216 % 256), Value.int IntKind.u8 (x / 65536 % 256), Value.int IntKind.u8 (x / 256 % 256), Value.int IntKind.u8 (x % 256)] 5)) [x / 72057594037927936 % 256, x / 281474976710656 % 256, x / 1099511627776 % 256, x / 4294967296 % 256, x / 16777216 % 256, x / 65536 % 256, x / 256 % 256, x % 256] (Builtin.zeroCells #[Value.int IntKind.u8 0] (Question.cut (Question.appendCap 8 0 5) (w1.tape w1.drawn (Question.appendCap 8 0 5)) - 8)) 5
    have e : (w1.alloc (Obj.cells #[Value.int IntKind.u8 (x / 72057594037927936 % 256), Value.int IntKind.u8 (x / 281474976710656 % 256), Value.int IntKind.u8 (x / 1099511627776 % 256), Value.int IntKind.u8 (x / 4294967296 % 256), Value.int IntKind.u8 (x / 16777216 % 256), Value.int IntKind.u8 (x / 65536 % 256), Value.int IntKind.u8 (x / 256 % 256), Value.int IntKind.u8 (x % 256)] 5)).heap.size = w1.heap.size + 1 := size_alloc _ _
    rw [e] at h
    exact h
  · exact ((hk1.alloc _).alloc _).drew
end Go.Proofs.YtgjhmbbbkkidlaaGreatDoor.hash
