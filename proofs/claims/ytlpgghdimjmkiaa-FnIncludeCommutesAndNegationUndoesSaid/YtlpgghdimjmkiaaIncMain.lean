/-
  The walk of FnIncludeCommutesAndNegationUndoes: adding two histograms either way gives the same cells, and adding the negation gives the first back.
  Conditions: the arrays' cells are 32-bit integers.
-/
import Derived.Test.YtlpgghdimjmkiaaInc
namespace Go.Proofs.Ytlpgghdimjmkiaa.inc
open Go.ChangeShapes Go.WideShapes Go.ChangeAt Go.RowKit
open kit

/-- the first k cells hold the negation -/
def negK (zs : List Int) (k : Nat) : List Int := (List.range 64).map fun j => if j < k then wrap32 (-(zs.getD j 0)) else 0
theorem negK_length (zs : List Int) (k : Nat) : (negK zs k).length = 64 := by simp [negK]
theorem negK_at {zs : List Int} {k j : Nat} (h : j < 64) : (negK zs k).getD j 0 = if j < k then wrap32 (-(zs.getD j 0)) else 0 := by simp [negK, h]
theorem negK_zero (zs : List Int) : negK zs 0 = zeros := by
  unfold zeros
  apply List.ext_getElem
  · simp [negK]
  · intro j h1 h2
    rw [List.getElem_replicate]
    simp only [negK, List.getElem_map, List.getElem_range, if_neg (Nat.not_lt_zero _)]
theorem negK_set {zs : List Int} {k : Nat} (h : k < 64) : (i32s (negK zs k)).set k (.int .i32 (wrap32 (-(zs.getD k 0)))) = i32s (negK zs (k + 1)) := by
  apply List.ext_getElem?
  intro j
  by_cases hj : k = j
  · subst hj
    rw [List.getElem?_set_self (by simp [i32s, negK, h]), i32s_at (by rw [negK_length]; exact h), negK_at h, if_pos (by omega)]
  · rw [List.getElem?_set_ne hj]
    by_cases h64 : j < 64
    · rw [i32s_at (by rw [negK_length]; exact h64), i32s_at (by rw [negK_length]; exact h64), negK_at h64, negK_at h64]
      by_cases hjk : j < k
      · rw [if_pos hjk, if_pos (by omega)]
      · rw [if_neg hjk, if_neg (by omega)]
    · rw [List.getElem?_eq_none (by simp [i32s, negK]; omega), List.getElem?_eq_none (by simp [i32s, negK]; omega)]
theorem undo {a b : Int} (h : -2147483648 ≤ a ∧ a ≤ 2147483647) : wrap32 (wrap32 (a + b) + wrap32 (-b)) = a := by unfold wrap32; omega

/-- what holds in the first loop -/
structure In1 (w : World) (q n5 n9 k : Nat) (A B : Array Value) (z0 z1 : List Int) (wr : World) : Prop where
  a : wr.heap[q]? = some (.cells A 22 (0, 0))
  b : wr.heap[q + 1]? = some (.cells B 22 (0, 0))
  f : Blk wr (q + 2) 23 (i32s (addK z0 z1 64))
  g : Blk wr n5 23 (i32s (addK z1 z0 64))
  n : Blk wr n9 23 (i32s (negK z1 k))
  e : q + 2 < n5 ∧ n5 < n9 ∧ w.heap.size = q
  bel : Below w.heap.size w wr
theorem In1.set {w : World} {q n5 n9 k : Nat} {A B : Array Value} {z0 z1 : List Int} {wr : World} (h : In1 w q n5 n9 k A B z0 z1 wr) (hk : k < 64) (m : Nat) :
    In1 w q n5 n9 (k + 1) A B z0 z1 ((wr.drewN m).setCell ⟨n9, k, none⟩ (.int .i32 (wrap32 (-(z1.getD k 0))))) := by
  have he := h.e
  refine ⟨?_, ?_, (h.f.drewN m).far (by show q + 2 ≠ n9; omega) _, (h.g.drewN m).far (by show n5 ≠ n9; omega) _, ?_, he, (below_drewN h.bel m).setCell (by show w.heap.size ≤ n9; omega) _⟩
  · rw [heap_setCell_other _ _ _ _ (by show q ≠ n9; omega)]; exact h.a
  · rw [heap_setCell_other _ _ _ _ (by show q + 1 ≠ n9; omega)]; exact h.b
  · rw [← negK_set hk]; exact (h.n.drewN m).set _ _

/-- what holds in the second loop -/
structure In2 (w : World) (q : Nat) (A : Array Value) (z0 z1 : List Int) (wr : World) : Prop where
  a : wr.heap[q]? = some (.cells A 22 (0, 0))
  f : Blk wr (q + 2) 23 (i32s (addK (addK z0 z1 64) (negK z1 64) 64))
  bel : Below w.heap.size w wr
theorem cellA {wr : World} {g k : Nat} {A : Array Value} {t : TypeId} {zs : List Int} (hA : Hid ((i32s zs).toArray = A ∧ zs.length = 64)) (h : wr.heap[g]? = some (.cells A t (0, 0))) (hk : k < 64) : wr.cell? ⟨g, k, none⟩ = some (.int .i32 (zs.getD k 0)) := by
  have hb := blk_of hA h
  rw [hb.cell, i32s_at (by rw [hA.out.2]; exact hk)]
theorem cellAdd {wr : World} {g k : Nat} {fs os : List Int} (h : Blk wr g 23 (i32s (addK fs os 64))) (hk : k < 64) : wr.cell? ⟨g, k, none⟩ = some (.int .i32 (wrap32 (fs.getD k 0 + os.getD k 0))) := by
  rw [h.cell, i32s_at (by rw [addK_length]; exact hk), addK_at hk, if_pos hk]

set_option maxRecDepth 100000 in
set_option maxHeartbeats 8000000 in
theorem walk (z0 z1 : List Int) (w : World) (h0 : z0.length = 64) (h1 : z1.length = 64) (wf0 : ∀ j, -2147483648 ≤ z0.getD j 0 ∧ z0.getD j 0 ≤ 2147483647) :
    Calls Try.prog 3 #[.agg (i32s z0).toArray, .agg (i32s z1).toArray] w fun e w' => e = .returned (.bool true) ∧ Below w.heap.size w w' := by
  obtain ⟨A, hA⟩ : ∃ A, (i32s z0).toArray = A := ⟨_, rfl⟩
  obtain ⟨B, hB⟩ : ∃ B, (i32s z1).toArray = B := ⟨_, rfl⟩
  rw [hA, hB]
  have HA := Lib.hid (And.intro hA h0)
  have HB := Lib.hid (And.intro hB h1)
  have WF := Lib.hid wf0
  clear hA hB h0 h1 wf0
  have HX := Lib.hid (heap_alloc2_old w (.cells A 22) (.cells B 22))
  have hy : ∀ o : Obj, (((w.alloc (.cells A 22)).alloc (.cells B 22)).alloc o).heap[w.heap.size + 1]? = some (.cells B 22 (0, 0)) := fun o => by
    rw [Below.heap_alloc _ _ _ (by simp)]
    exact heap_alloc2_new w (.cells A 22) (.cells B 22)
  have HY := Lib.hid hy
  clear hy
  go_enter Try.func3, Try.ntmps3
  go_wp2_with (first
    | (with_reducible refine wp_copyArr _ 2 5 12 rfl rfl rfl rfl rfl rfl rfl rfl rfl w.heap.size A z0 HA rfl HX.out rfl rfl ?_)
    | (with_reducible refine wp_copyArr _ 3 6 13 rfl rfl rfl rfl rfl rfl rfl rfl rfl (w.heap.size + 1) B z1 HB rfl (HY.out _) rfl rfl ?_))
  obtain ⟨w4, hw4⟩ : ∃ w4, w4 = ((((w.alloc (Obj.cells A 22)).alloc (Obj.cells B 22)).alloc (Obj.cells A 23)).alloc (Obj.cells B 23)) := ⟨_, rfl⟩
  have K4 : Hid (Kept w w4) := Lib.hid (by rw [hw4]; exact ((((Kept.refl w).alloc _).alloc _).alloc _).alloc _)
  have s4 : w4.heap.size = w.heap.size + 4 := by rw [hw4]; simp
  have S4 := Lib.hid s4
  have A4 : Hid (w4.heap[w.heap.size]? = some (.cells A 22 (0, 0))) := Lib.hid (by rw [hw4, Below.heap_alloc _ _ _ (by simp; omega), Below.heap_alloc _ _ _ (by simp; omega)]; exact HX.out)
  have B4 : Hid (w4.heap[w.heap.size + 1]? = some (.cells B 22 (0, 0))) := Lib.hid (by rw [hw4, Below.heap_alloc _ _ _ (by simp)]; exact HY.out _)
  have F4 : Hid (Blk w4 (w.heap.size + 2) 23 (i32s z0)) := Lib.hid (blk_of HA (by
    rw [hw4, Below.heap_alloc _ _ _ (by simp)]
    have := heap_alloc_new ((w.alloc (Obj.cells A 22)).alloc (Obj.cells B 22)) (Obj.cells A 23)
    simpa using this))
  have O4 : Hid (Blk w4 (w.heap.size + 3) 23 (i32s z1)) := Lib.hid (blk_of HB (by
    rw [hw4]
    have := heap_alloc_new (((w.alloc (Obj.cells A 22)).alloc (Obj.cells B 22)).alloc (Obj.cells A 23)) (Obj.cells B 23)
    simpa using this))
  have HC := Lib.hid (run w4 (w.heap.size + 2) (w.heap.size + 3) z0 z1 F4.out O4.out (by omega) HA.out.2 HB.out.2)
  rw [← hw4]
  clear hw4 s4 HX HY O4
  go_wp2_with fail
  refine HC.out.mono ?_
  rintro e w5 ⟨rfl, hb5, hg5⟩
  have G5 := Lib.hid hg5
  have F5 := Lib.hid hb5
  have hl5 := hg5.size
  have A5 : Hid (w5.heap[w.heap.size]? = some (.cells A 22 (0, 0))) := Lib.hid ((hg5.block _ (by have := S4.out; omega) (by simp)).trans A4.out)
  have B5 : Hid (w5.heap[w.heap.size + 1]? = some (.cells B 22 (0, 0))) := Lib.hid ((hg5.block _ (by have := S4.out; omega) (by simp)).trans B4.out)
  have HL5 : Hid (w.heap.size + 4 ≤ w5.heap.size) := Lib.hid (by rw [← S4.out]; exact hl5)
  have BE5 : Hid (Below w.heap.size w w5) := Lib.hid ⟨hg5.os.trans K4.out.os, hg5.tape.trans K4.out.tape, hg5.output.trans K4.out.output, Nat.le_trans K4.out.size hl5, fun i hi => (hg5.block i (by have := S4.out; omega) (by simp; omega)).trans (K4.out.block i hi)⟩
  clear hb5 hg5 hl5 A4 B4 F4 HC
  have hx5 : ∀ o : Obj, (w5.alloc o).heap[w.heap.size]? = some (.cells A 22 (0, 0)) := fun o => by
    rw [Below.heap_alloc _ _ _ (by have := HL5.out; omega)]
    exact A5.out
  have HX := Lib.hid hx5
  clear hx5
  go_wp2_with (first
    | (with_reducible refine wp_copyArr _ 3 7 15 rfl rfl rfl rfl rfl rfl rfl rfl rfl (w.heap.size + 1) B z1 HB rfl B5.out rfl rfl ?_)
    | (with_reducible refine wp_copyArr _ 2 8 16 rfl rfl rfl rfl rfl rfl rfl rfl rfl w.heap.size A z0 HA rfl (HX.out _) rfl rfl ?_))
  obtain ⟨w7, hw7⟩ : ∃ w7, w7 = ((w5.alloc (Obj.cells B 23)).alloc (Obj.cells A 23)) := ⟨_, rfl⟩
  have K7 : Hid (Kept w5 w7) := Lib.hid (by rw [hw7]; exact ((Kept.refl w5).alloc _).alloc _)
  have S7 : Hid (w7.heap.size = w5.heap.size + 2) := Lib.hid (by rw [hw7]; simp)
  have F7 : Hid (Blk w7 w5.heap.size 23 (i32s z1)) := Lib.hid (blk_of HB (by
    rw [hw7, Below.heap_alloc _ _ _ (by simp)]
    exact heap_alloc_new w5 (Obj.cells B 23)))
  have O7 : Hid (Blk w7 (w5.heap.size + 1) 23 (i32s z0)) := Lib.hid (blk_of HA (by
    rw [hw7]
    have := heap_alloc_new (w5.alloc (Obj.cells B 23)) (Obj.cells A 23)
    simpa using this))
  have HC := Lib.hid (run w7 w5.heap.size (w5.heap.size + 1) z1 z0 F7.out O7.out (by omega) HB.out.2 HA.out.2)
  rw [← hw7]
  clear hw7 HX O7
  go_wp2_with fail
  refine HC.out.mono ?_
  rintro e w8 ⟨rfl, hb8, hg8⟩
  have HI0 : Hid (In1 w w.heap.size w5.heap.size w8.heap.size 0 A B z0 z1 (w8.alloc (.cells (i32s zeros).toArray 23))) := Lib.hid (by
    have l5 := HL5.out
    have s7 := S7.out
    have l8 := hg8.size
    have old : ∀ i, i < w5.heap.size → w8.heap[i]? = w5.heap[i]? := fun i hi => (hg8.block i (by omega) (by simp; omega)).trans (K7.out.block i hi)
    refine ⟨?_, ?_, ?_, hb8.alloc _, ?_, ⟨by omega, by omega, rfl⟩, ?_⟩
    · rw [Below.heap_alloc _ _ _ (by omega), old _ (by omega)]; exact A5.out
    · rw [Below.heap_alloc _ _ _ (by omega), old _ (by omega)]; exact B5.out
    · have : Blk w8 (w.heap.size + 2) 23 (i32s (addK z0 z1 64)) := (old _ (by omega)).trans F5.out
      exact this.alloc _
    · rw [negK_zero]; exact Blk.new _ _ _
    · refine Below.alloc ⟨hg8.os.trans (K7.out.os.trans BE5.out.os), hg8.tape.trans (K7.out.tape.trans BE5.out.tape), hg8.output.trans (K7.out.output.trans BE5.out.output), by omega, fun i hi => (old i (by omega)).trans (BE5.out.block i hi)⟩ (by omega) _)
  clear hb8 hg8 HC F7 K7 S7 A5 B5 F5 G5 BE5 HL5 K4 S4
  generalize w5.heap.size = n5 at *
  go_wp2_with (with_reducible refine wp_var _ rfl rfl ?_)
  generalize w8.alloc (.cells (i32s zeros).toArray 23) = w9 at *
  generalize w8.heap.size = n9 at *
  generalize w.heap.size = q at *
  go_loopw [10] (fun t wr => ∃ k : Nat, k ≤ 64 ∧ t = .int .i64 (k : Int) ∧ Hid (In1 w q n5 n9 k A B z0 z1 wr)) (fun t _ => 64 - (intOf t).toNat)
  case atStart => exact ⟨0, by omega, rfl, HI0⟩
  case round =>
    obtain ⟨k, hk, rfl, HR⟩ := hrel
    by_cases hlt : k < 64
    · have c1 : wr.cell? ⟨q + 1 + 1, k, none⟩ = some (.int .i32 (wrap32 (z0.getD k 0 + z1.getD k 0))) := cellAdd HR.out.f hlt
      have c2 : wr.cell? ⟨n5, k, none⟩ = some (.int .i32 (wrap32 (z0.getD k 0 + z1.getD k 0))) := by rw [Int.add_comm]; exact cellAdd HR.out.g hlt
      have c3 : wr.cell? ⟨q + 1, k, none⟩ = some (.int .i32 (z1.getD k 0)) := cellA HB HR.out.b hlt
      have c4 : wr.cell? ⟨n9, k, none⟩ = some (.int .i32 0) := by
        rw [HR.out.n.cell, i32s_at (by rw [negK_length]; exact hlt), negK_at hlt, if_neg (by omega)]
      have f4 := HR.out.n.free k
      have HN := Lib.hid (fun m => HR.out.set hlt m)
      generalize wrap32 (z0.getD k 0 + z1.getD k 0) = x at *
      generalize z1.getD k 0 = y at *
      have i1 : (0 : Int) ≤ (k : Int) := by omega
      have i2 : (k : Int) < 64 := by omega
      go_wp2
      go_quiet (fail)
      go_wp2
      go_roundw
      case rel => exact ⟨k + 1, by omega, by go_num, Lib.hid (HN.out _)⟩
      case measure => simp [intOf]; omega
    · obtain rfl : k = 64 := by omega
      have HC := Lib.hid (run wr (q + 2) n9 (addK z0 z1 64) (negK z1 64) HR.out.f HR.out.n (by have := HR.out.e; omega) (addK_length ..) (negK_length ..))
      go_wp2_with fail
      refine HC.out.mono ?_
      rintro e w10 ⟨rfl, hb10, hg10⟩
      have HI2 : Hid (In2 w q A z0 z1 w10) := Lib.hid (by
        have he := HR.out.e
        have hb := HR.out.bel
        refine ⟨(hg10.block q (by have := HR.out.f.lt; omega) (by simp)).trans HR.out.a, hb10, ?_⟩
        exact ⟨hg10.os.trans hb.os, hg10.tape.trans hb.tape, hg10.output.trans hb.output, Nat.le_trans hb.size hg10.size, fun i hi => (hg10.block i (by have := hb.size; omega) (by simp; omega)).trans (hb.block i hi)⟩)
      clear hb10 hg10 HC HR
      go_wp2_with fail
      go_loopw [11] (fun t wr => ∃ k : Nat, k ≤ 64 ∧ t = .int .i64 (k : Int) ∧ Hid (In2 w q A z0 z1 wr)) (fun t _ => 64 - (intOf t).toNat)
      case atStart => exact ⟨0, by omega, rfl, HI2⟩
      case round =>
        obtain ⟨k, hk, rfl, HR⟩ := hrel
        by_cases hlt : k < 64
        · have c1 : wr.cell? ⟨q + 1 + 1, k, none⟩ = some (.int .i32 (z0.getD k 0)) := by
            have h := cellAdd HR.out.f hlt
            rw [addK_at hlt, if_pos hlt, negK_at hlt, if_pos hlt, undo (WF.out k)] at h
            exact h
          have c2 : wr.cell? ⟨q, k, none⟩ = some (.int .i32 (z0.getD k 0)) := cellA HA HR.out.a hlt
          generalize z0.getD k 0 = x at *
          have i1 : (0 : Int) ≤ (k : Int) := by omega
          have i2 : (k : Int) < 64 := by omega
          go_wp2
          go_quiet (fail)
          go_wp2
          go_roundw
          case rel => exact ⟨k + 1, by omega, by go_num, Lib.hid ⟨HR.out.a, HR.out.f.drewN _, below_drewN HR.out.bel _⟩⟩
          case measure => simp [intOf]; omega
        · obtain rfl : k = 64 := by omega
          go_wp2
          go_ret
          exact ⟨rfl, HR.out.bel⟩
end Go.Proofs.Ytlpgghdimjmkiaa.inc
