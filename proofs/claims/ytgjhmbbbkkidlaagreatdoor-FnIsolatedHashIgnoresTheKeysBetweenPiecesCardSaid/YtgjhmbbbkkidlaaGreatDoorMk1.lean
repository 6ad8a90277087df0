/-
  Making slices of structs over this seat's program, with every cell known to be one cell; a struct stored into the midst of a block.
  Conditions: none.
-/
import Derived.Test.YtgjhmbbbkkidlaaGreatDoorMk
import Derived.Test.YtgjhmbbbkkidlaaGreatDoorTurn
namespace Go.Proofs.YtgjhmbbbkkidlaaGreatDoor.kit
open Go.ChangeShapes Go.WideShapes Go.ChangeAt Go.RowKit

theorem makeN1 {T E : TypeId} {size bytes : Nat} (ht : Tryz.prog.underlying T = some (.slice E)) (hinfo : (Tryz.prog.info? E).map (fun i => (i.size, i.bytes, i.zero.map (·.cells.size))) = some (size, bytes, some size)) (hone : (Tryz.prog.info? E).map (fun i => i.zero.map (fun z => z.cells.all (·.oneCell'))) = some (some true)) (n : Nat) (hn : bytes * n ≤ 281474976710656) (hn2 : n ≤ 9223372036854775807) :
    ∃ C : List Value, C.length = n * size ∧ (∀ v ∈ C, v.oneCell' = true) ∧ (∀ o u, o < size → (Tryz.prog.info? E).map (fun i => i.zero.map (·.cells[o]?)) = some (some (some u)) → ∀ k, k < n → C[k * size + o]? = some u) ∧
      ∀ w : World, (Instr.makeSlice T (.int .i64 (n : Int)) (.int .i64 (n : Int))).run Tryz.prog w = .ok (.slice (some ⟨w.heap.size, 0, none⟩) n n) (w.alloc (.cells C.toArray E)) := by
  obtain ⟨i, hi, hzz⟩ := Option.map_eq_some_iff.1 hinfo
  simp only [Prod.mk.injEq] at hzz
  obtain ⟨hs, hby, hz⟩ := hzz
  obtain ⟨z, hz0, hzs⟩ := Option.map_eq_some_iff.1 hz
  refine ⟨(madeCells z.cells (n * size)).toList, by simp [size_madeCells], fun v hv => ?_, fun o u ho hu k hk => ?_, fun w => ?_⟩
  · rw [hi] at hone
    simp only [Option.map_some, hz0, Option.some.injEq] at hone
    simp only [madeCells, Array.toList_map, List.mem_map] at hv
    obtain ⟨x, hx, rfl⟩ := hv
    have hx2 : x < n * size := by simpa using hx
    have hpos : 0 < size := Nat.pos_of_ne_zero (fun e => by rw [e] at hx2; omega)
    have hlt : x % z.cells.size < z.cells.size := by rw [hzs]; exact Nat.mod_lt _ hpos
    rw [getElem!_pos z.cells _ hlt]
    exact (Array.all_eq_true_iff_forall_mem.1 hone) _ (Array.getElem_mem hlt)
  · rw [hi] at hu
    simp only [Option.map_some, hz0, Option.some.injEq] at hu
    have hlt : k * size + o < n * size := by
      have : (k + 1) * size ≤ n * size := Nat.mul_le_mul_right _ hk
      rw [Nat.succ_mul] at this
      omega
    have e : (k * size + o) % size = o := by rw [Nat.mul_comm, Nat.mul_add_mod]; exact Nat.mod_eq_of_lt ho
    simp only [madeCells, Array.toList_map, List.getElem?_map, Array.toList_range, List.getElem?_range hlt, Option.map_some, hzs, e]
    rw [getElem!_def, hu]
  · have hb : (i.bytes : Int) * (n : Int) ≤ 281474976710656 := by
      have h : ((i.bytes * n : Nat) : Int) ≤ 281474976710656 := by rw [hby]; omega
      rwa [Int.natCast_mul] at h
    have hr := run_make (P := Tryz.prog) w T E i z ht hi hz0 .i64 .i64 n n (by omega) (by omega) hb (by omega)
    simp only [Int.toNat_natCast, hs] at hr
    rw [Array.toArray_toList]
    exact hr

/-- cells stored into the midst of a block -/
theorem Blk.setCells {g : Nat} {t : TypeId} : ∀ (vs : List Value) (o : Nat) (w : World) (cs : List Value), Blk w g t cs → o + vs.length ≤ cs.length →
    ∃ cs2, Blk (w.setCells g o vs) g t cs2 ∧ cs2.length = cs.length ∧ (∀ k, k < o ∨ o + vs.length ≤ k → cs2[k]? = cs[k]?) ∧ ∀ k, k < vs.length → cs2[o + k]? = vs[k]? := by
  intro vs
  induction vs with
  | nil => intro o w cs h _; exact ⟨cs, h, rfl, fun _ _ => rfl, fun k hk => absurd hk (by simp)⟩
  | cons v r ih =>
    intro o w cs h hl
    simp only [List.length_cons] at hl
    obtain ⟨cs2, h2, l2, a2, b2⟩ := ih (o + 1) _ _ (h.set o v) (by rw [List.length_set]; omega)
    refine ⟨cs2, h2, by rw [l2, List.length_set], fun k hk => ?_, fun k hk => ?_⟩
    · simp only [List.length_cons] at hk
      rw [a2 k (by omega), List.getElem?_set_ne (by omega)]
    · simp only [List.length_cons] at hk
      cases k with
      | zero => rw [Nat.add_zero, a2 o (by omega), List.getElem?_set_self (by omega)]; rfl
      | succ k => rw [show o + (k + 1) = o + 1 + k by omega, b2 k (by omega)]; rfl
theorem Blk.setCellsFar {g b : Nat} {t : TypeId} (hne : g ≠ b) : ∀ (vs : List Value) (o : Nat) (w : World) (cs : List Value), Blk w g t cs → Blk (w.setCells b o vs) g t cs := by
  intro vs
  induction vs with
  | nil => intro o w cs h; exact h
  | cons v r ih => intro o w cs h; exact ih (o + 1) _ _ (h.far hne v)
theorem Blk.has {w : World} {g : Nat} {t : TypeId} {cs : List Value} (h : Blk w g t cs) {i : Nat} (hi : i < cs.length) : ∃ v, w.cell? ⟨g, i, none⟩ = some v ∧ w.frozen? ⟨g, i, none⟩ = false := ⟨_, h.cellD hi, h.free i⟩
theorem Blk.there {w : World} {g : Nat} {t : TypeId} {cs : List Value} (h : Blk w g t cs) {o n : Nat} (hl : o + n ≤ cs.length) : w.there g o n := fun i hi =>
  ⟨by rw [h.cell, List.getElem?_eq_getElem (by omega)]; rfl, h.free _⟩
end Go.Proofs.YtgjhmbbbkkidlaaGreatDoor.kit
