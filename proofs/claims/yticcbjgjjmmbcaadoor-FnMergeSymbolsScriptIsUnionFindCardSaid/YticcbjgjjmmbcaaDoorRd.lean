/-
  zzStarts and zzFlat over this seat's program: where each source begins, and a ref's flat place.
  Conditions: the ref is one of the flat list's.
-/
import Derived.Test.YticcbjgjjmmbcaaDoorP236
namespace Go.Proofs.YticcbjgjjmmbcaaDoor.p236
open Go.ChangeShapes Go.WideShapes Go.ChangeAt Go.RowKit
open kit chain arena cut arr

def starts (zs : List Int) (n : Nat) : List Int := (List.range (srcs zs n)).map fun k => (pos zs n k : Int)
theorem starts_length (zs : List Int) (n : Nat) : (starts zs n).length = srcs zs n := by simp [starts]
theorem starts_at {zs : List Int} {n k : Nat} (h : k < srcs zs n) : (starts zs n).getD k 0 = (pos zs n k : Int) := by simp [starts, h]
theorem pos_next (zs : List Int) (n k : Nat) : (pos zs n (k + 1) : Int) = (pos zs n k : Int) + (cnt zs n k : Int) := by
  have := pos_mono1 zs n k
  unfold cnt
  omega

set_option maxHeartbeats 2000000 in
theorem startsC (cb c n : Nat) (zs : List Int) (w : World) (h : IntAt w cb (counts zs n)) (hS : srcs zs n ≤ 4097) (hn : n ≤ 4096) :
    Calls Tryd.prog 14 #[.slice (some ⟨cb, 0, none⟩) (srcs zs n) c] w fun e w' => e = .returned (.slice (some ⟨w.heap.size, 0, none⟩) (srcs zs n) (srcs zs n)) ∧ IntAt w' w.heap.size (starts zs n) ∧ Kept w w' := by
  obtain ⟨C, hC, hmk⟩ := makeInts (srcs zs n) (by omega)
  have HC := Lib.hid hC
  have H0 := Lib.hid h
  have HCB : Hid (cb < w.heap.size) := Lib.hid h.1
  clear hC h
  generalize hSS : srcs zs n = S at *
  have HSS := Lib.hid hSS
  clear hSS
  go_enter Tryd.func14, Tryd.ntmps14
  go_wp2
  go_loopw [4, 5] (fun t4 t5 wr => ∃ k : Nat, k ≤ S ∧ t5 = .int .i64 (k : Int) ∧ t4 = .int .i64 (pos zs n k : Int) ∧ Hid (Blk wr w.heap.size 3 (fillV (fun i => .int .i64 (pos zs n i : Int)) (.int .i64 0) S k) ∧ Kept w wr)) (fun _ t5 _ => S - (intOf t5).toNat)
  case atStart => exact ⟨0, by omega, rfl, rfl, Lib.hid ⟨blkMade HC.out _, (Kept.refl _).alloc _⟩⟩
  case round =>
    obtain ⟨k, hk, rfl, rfl, HB⟩ := hrel
    by_cases hlt : k < S
    · have hki : (k : Int) < (S : Int) := by omega
      have hle := pos_le zs n k
      have hlc := cnt_le zs n k
      have c1 : wr.cell? ⟨w.heap.size, k, none⟩ = some (.int .i64 0) := by rw [HB.out.1.cell, fillV_at _ _ hlt]
      have f1 := HB.out.1.free k
      have c2 : wr.cell? ⟨cb, k, none⟩ = some (.int .i64 (cnt zs n k : Int)) := by
        rw [HB.out.2.cell (H0.out.2 k (by rw [counts_length, HSS.out]; exact hlt)), counts_at zs n (by rw [HSS.out]; exact hlt)]
      have c3 : (wr.setCell ⟨w.heap.size, k, none⟩ (.int .i64 (pos zs n k : Int))).cell? ⟨cb, k, none⟩ = some (.int .i64 (cnt zs n k : Int)) := by
        rw [World.cell?_setCell_other _ _ _ _ (by intro e; injection e with e; have := HCB.out; omega)]; exact c2
      have HN := Lib.hid (pos_next zs n k)
      have HR : Hid (Blk (wr.setCell ⟨w.heap.size, k, none⟩ (.int .i64 (pos zs n k : Int))) w.heap.size 3 (fillV (fun i => .int .i64 (pos zs n i : Int)) (.int .i64 0) S (k + 1)) ∧ Kept w (wr.setCell ⟨w.heap.size, k, none⟩ (.int .i64 (pos zs n k : Int)))) := Lib.hid ⟨by
        have := HB.out.1.set k (.int .i64 (pos zs n k : Int))
        rw [fillV_set (fun i => Value.int .i64 (pos zs n i : Int)) (.int .i64 0) hlt] at this
        exact this, HB.out.2.setCell (Nat.le_refl _) _⟩
      clear c2
      go_wp2
      go_roundw
      case rel => exact ⟨k + 1, by omega, by go_num, by rw [HN.out], HR⟩
      case measure => simp [intOf]; omega
    · obtain rfl : S = k := by omega
      go_wp2
      go_ret
      refine ⟨rfl, ?_, HB.out.2⟩
      have := IntAt.of_fill (f := fun i => (pos zs n i : Int)) HB.out.1
      rw [starts, HSS.out]
      exact this

set_option maxHeartbeats 2000000 in
theorem flatC (cb c sb n x : Nat) (zs : List Int) (w : World) (h : IntAt w cb (counts zs n)) (h2 : IntAt w sb (starts zs n)) (hx : x < n) (hn : n ≤ 4096) (hS : srcs zs n ≤ 4097) :
    Calls Tryd.prog 18 #[refV (ref zs n x), .slice (some ⟨cb, 0, none⟩) (srcs zs n) c, .slice (some ⟨sb, 0, none⟩) (srcs zs n) (srcs zs n)] w fun e w' => e = .returned (.int .i64 (x : Int)) ∧ Kept w w' := by
  obtain ⟨g1, g2, g3, g4⟩ := ref_ok zs n hx
  have hlt := ref_lt zs n hx
  have hx2 : ((ref zs n x).2 : Int) + (pos zs n (ref zs n x).1 : Int) = (x : Int) ∨ True := .inr trivial
  have c1 := h.2 (ref zs n x).1 (by rw [counts_length]; exact g3)
  rw [counts_at zs n g3] at c1
  have c2 := h2.2 (ref zs n x).1 (by rw [starts_length]; exact g3)
  rw [starts_at g3] at c2
  have hcl := cnt_le zs n (ref zs n x).1
  have hval : (pos zs n (ref zs n x).1 : Int) + ((ref zs n x).2 : Int) = (x : Int) := by omega
  have hpl := pos_le zs n (ref zs n x).1
  have HV := Lib.hid hval
  clear g1 g2 g4 h h2 hx2 hval
  unfold refV
  generalize (ref zs n x).1 = s at *
  generalize (ref zs n x).2 = j at *
  generalize cnt zs n s = cn at *
  generalize pos zs n s = ps at *
  generalize srcs zs n = S at *
  have i0 : (0 : Int) ≤ (s : Int) := by omega
  have i1 : (s : Int) < (S : Int) := by omega
  have i2 : (j : Int) < (cn : Int) := by omega
  have d1 : (w.alloc (.cells #[.int .u32 (s : Int), .int .u32 (j : Int)] 44)).cell? ⟨cb, s, none⟩ = some (.int .i64 (cn : Int)) := ((Kept.refl w).alloc _).cell c1
  have d2 : (w.alloc (.cells #[.int .u32 (s : Int), .int .u32 (j : Int)] 44)).cell? ⟨sb, s, none⟩ = some (.int .i64 (ps : Int)) := ((Kept.refl w).alloc _).cell c2
  clear c1 c2
  go_enter Tryd.func18, Tryd.ntmps18
  go_wp2
  go_ret
  exact ⟨by rw [← HV.out]; rfl, (Kept.refl _).alloc _⟩
end Go.Proofs.YticcbjgjjmmbcaaDoor.p236
