/-
  Making slices of structs over this seat's program: the new block's size and its zero cells.
  Conditions: none.
-/
import Derived.Test.YtgjhmbbbkkidlaaGreatDoorBlk
import Derived.Laws.Tables
namespace Go.Proofs.YtgjhmbbbkkidlaaGreatDoor.kit
open Go.ChangeShapes Go.WideShapes Go.ChangeAt Go.RowKit

theorem makeN {T E : TypeId} {size bytes : Nat} (ht : Tryz.prog.underlying T = some (.slice E)) (hinfo : (Tryz.prog.info? E).map (fun i => (i.size, i.bytes, i.zero.map (·.cells.size))) = some (size, bytes, some size)) (n : Nat) (hn : bytes * n ≤ 281474976710656) (hn2 : n ≤ 9223372036854775807) :
    ∃ C : List Value, C.length = n * size ∧ (∀ o u, o < size → (Tryz.prog.info? E).map (fun i => i.zero.map (·.cells[o]?)) = some (some (some u)) → ∀ k, k < n → C[k * size + o]? = some u) ∧
      ∀ w : World, (Instr.makeSlice T (.int .i64 (n : Int)) (.int .i64 (n : Int))).run Tryz.prog w = .ok (.slice (some ⟨w.heap.size, 0, none⟩) n n) (w.alloc (.cells C.toArray E)) := by
  obtain ⟨i, hi, hzz⟩ := Option.map_eq_some_iff.1 hinfo
  simp only [Prod.mk.injEq] at hzz
  obtain ⟨hs, hby, hz⟩ := hzz
  obtain ⟨z, hz0, hzs⟩ := Option.map_eq_some_iff.1 hz
  refine ⟨(madeCells z.cells (n * size)).toList, by simp [size_madeCells], fun o u ho hu k hk => ?_, fun w => ?_⟩
  · rw [hi] at hu
    simp only [Option.map_some, hz0, Option.some.injEq] at hu
    have hlt : k * size + o < n * size := by
      have : (k + 1) * size ≤ n * size := Nat.mul_le_mul_right _ hk
      rw [Nat.succ_mul] at this
      omega
    have e : (k * size + o) % size = o := by rw [Nat.mul_comm, Nat.mul_add_mod]; exact Nat.mod_eq_of_lt ho
    simp only [madeCells, Array.toList_map, List.getElem?_map, Array.toList_range, List.getElem?_range hlt, Option.map_some, hzs, e]
    rw [getElem!_def, hu]
  · have hb : (i.bytes : Int) * (n : Int) ≤ 281474976710656 := by
      have h : ((i.bytes * n : Nat) : Int) ≤ 281474976710656 := by rw [hby]; omega
      rwa [Int.natCast_mul] at h
    have hr := run_make (P := Tryz.prog) w T E i z ht hi hz0 .i64 .i64 n n (by omega) (by omega) hb (by omega)
    simp only [Int.toNat_natCast, hs] at hr
    rw [Array.toArray_toList]
    exact hr
/-- a zero struct built -/
theorem wp_build0 {ops : Array Oper} {rest : List Oper} {o : Oper} {a : Act} {w : World} {Q : Exit → Act → World → Prop} (hg : o.guard = none) (t : TypeId) (ho : o.op = .build t #[]) (CS : Array Value) (hCS : Tryz.prog.built t [] = some CS)
    (h : wpList Tryz.prog ops Q rest (a.put o.dst (.agg CS)) w) : wpList Tryz.prog ops Q (o :: rest) a w := by
  refine wpList_build hg t #[] ho (by rw [show ((#[] : Array (Nat × Operand)).map fun (x : Nat × Operand) => (x.1, a.eval x.2)).toList = [] by simp, hCS]; rfl) ?_
  rw [show ((#[] : Array (Nat × Operand)).map fun (x : Nat × Operand) => (x.1, a.eval x.2)).toList = [] by simp, hCS]
  exact h
theorem built_of {t n : Nat} (h : (Tryz.prog.built t []).map (·.size) = some n) : ∃ CS : Array Value, Tryz.prog.built t [] = some CS ∧ CS.size = n := by
  obtain ⟨CS, h1, h2⟩ := Option.map_eq_some_iff.1 h
  exact ⟨CS, h1, h2⟩
end Go.Proofs.YtgjhmbbbkkidlaaGreatDoor.kit
