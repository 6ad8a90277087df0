/-
  The row that is sorted, in memory: block b holds the entries d, all else that was there stands. What sort asks of the row's type: Less, Swap, Len.
  Conditions: the indices lie in the row.
-/
import Derived.Test.YtbnkhpbgibgahaaFl
import Derived.Test.YtbnkhpbgibgahaaTurn
import Derived.Test.YtbnkhpbgibgahaaLe
import Derived.BigRegion
namespace Go.Proofs.Ytbnkhpbgibgahaa.so
open Go.ChangeShapes Go.WideShapes Go.ChangeAt Go.RowKit
open kit ms sq fl Go.Sort

/-- block b holds the n entries d and, behind them, sp; from w0 on nothing else that was there has turned -/
structure Rw (b n : Nat) (sp : List Value) (w0 : World) (d : Array En) (w : World) : Prop where
  turn : Turn w0 w (fun k => k = b)
  blk : Blk w b 40 (Cells d sp)
  sz : d.size = n
  lt : b < w0.heap.size
section
variable {b n : Nat} {sp : List Value} {w0 w w2 : World} {d : Array En}
theorem Rw.start (h : Blk w b 40 (Cells d sp)) (hs : d.size = n) : Rw b n sp w d w := ⟨Turn.refl _ _, h, hs, h.lt⟩
theorem Rw.kept (h : Rw b n sp w0 d w) (k : Kept w w2) : Rw b n sp w0 d w2 := ⟨h.turn.kept k, h.blk.kept k, h.sz, h.lt⟩
theorem Rw.drew (h : Rw b n sp w0 d w) : Rw b n sp w0 d w.drew := h.kept (Kept.refl w).drew
theorem Rw.alloc (h : Rw b n sp w0 d w) (o : Obj) : Rw b n sp w0 d (w.alloc o) := h.kept ((Kept.refl w).alloc o)
theorem Rw.setNew (h : Rw b n sp w0 d w) {p : Addr} (hp : w0.heap.size ≤ p.block) (u : Value) : Rw b n sp w0 d (w.setCell p u) :=
  ⟨h.turn.setNew hp u, h.blk.far (by have := h.lt; omega) u, h.sz, h.lt⟩
/-- the same, told from another world on -/
theorem Rw.from_ (h : Rw b n sp w0 d w) : Rw b n sp w d w := ⟨Turn.refl _ _, h.blk, h.sz, h.blk.lt⟩
theorem Rw.trans {d2 : Array En} (h : Rw b n sp w0 d w) (k : Rw b n sp w d2 w2) : Rw b n sp w0 d2 w2 := ⟨h.turn.trans k.turn, k.blk, k.sz, h.lt⟩
end

/-- the row as a slice value -/
def rowV (b n c : Nat) : Value := .slice (some ⟨b, 0, none⟩) n c

/-- a call that leaves the row as d2 -/
def Left (b n : Nat) (sp : List Value) (w0 : World) (d2 : Array En) (e : Ending) (w : World) : Prop := e = .returned (.tuple #[]) ∧ Rw b n sp w0 d2 w

theorem less (b n c : Nat) (sp : List Value) (w0 : World) (d : Array En) (w : World) (i j : Nat) (h : Rw b n sp w0 d w) (hi : i < n) (hj : j < n) :
    Calls Try.prog 14 #[rowV b n c, .int .i64 (i : Int), .int .i64 (j : Int)] w fun e w' => e = .returned (.bool (klt d[i]! d[j]!)) ∧ Kept w w' := by
  have hi2 : i < d.size := by rw [h.sz]; exact hi
  have hj2 : j < d.size := by rw [h.sz]; exact hj
  have ca := fun k hk => (h.blk.cell (3 * i + k)).trans (cells_at (sp := sp) hi2 k hk)
  have cb := fun k hk => (h.blk.cell (3 * j + k)).trans (cells_at (sp := sp) hj2 k hk)
  have e1 : 0 + (i : Int).toNat * 3 = 3 * i := by omega
  have e2 : 0 + (j : Int).toNat * 3 = 3 * j := by omega
  refine (stable.less b 0 n c i j d[i]!.s d[i]!.src d[i]!.inn d[j]!.s d[j]!.src d[j]!.inn w h.blk.lt (by omega) (by omega) (by omega) (by omega) ?_ ?_ ?_ ?_ ?_ ?_).mono ?_
  · rw [e1]; exact ca 0 (by omega)
  · rw [e1]; exact ca 1 (by omega)
  · rw [e1]; exact ca 2 (by omega)
  · rw [e2]; exact cb 0 (by omega)
  · rw [e2]; exact cb 1 (by omega)
  · rw [e2]; exact cb 2 (by omega)
  · rintro e w' ⟨rfl, hk⟩
    refine ⟨?_, hk⟩
    congr 2
    simp [stable.kless, klt]

theorem len (b n c : Nat) (w : World) : Calls Try.prog 53 #[rowV b n c] w fun e w' => e = .returned (.int .i64 (n : Int)) ∧ w = w' := by
  unfold rowV
  go_enter Try.func53, Try.ntmps53
  go_wp2
  go_ret
  exact ⟨rfl, rfl⟩

def Swapped (b : Nat) (cs : List Value) (w : World) (e : Ending) (w' : World) : Prop := e = .returned (.tuple #[]) ∧ Blk w' b 40 cs ∧ Turn w w' (fun k => k = b)

set_option maxRecDepth 100000 in
set_option maxHeartbeats 8000000 in
theorem swapNe (w : World) (b n c : Nat) (cs : List Value) (i j : Nat) (x y : En) (h : Blk w b 40 cs) (hi : i < n) (hj : j < n) (hij : i ≠ j)
    (c0 : cs[3 * i]? = some (.int .u32 x.s)) (c1 : cs[3 * i + 1]? = some (.int .u32 x.src)) (c2 : cs[3 * i + 2]? = some (.int .u32 x.inn))
    (d0 : cs[3 * j]? = some (.int .u32 y.s)) (d1 : cs[3 * j + 1]? = some (.int .u32 y.src)) (d2 : cs[3 * j + 2]? = some (.int .u32 y.inn)) :
    Calls Try.prog 54 #[.slice (some ⟨b, 0, none⟩) n c, .int .i64 (i : Int), .int .i64 (j : Int)] w (Swapped b ((((((cs.set (3 * i) (.int .u32 y.s)).set (3 * i + 1) (.int .u32 y.src)).set (3 * i + 2) (.int .u32 y.inn)).set (3 * j) (.int .u32 x.s)).set (3 * j + 1) (.int .u32 x.src)).set (3 * j + 2) (.int .u32 x.inn)) w) := by
  have i1 : (i : Int) < (n : Int) := by omega
  have i2 : (j : Int) < (n : Int) := by omega
  have i3 : (0 : Int) ≤ (i : Int) := by omega
  have i4 : (0 : Int) ≤ (j : Int) := by omega
  rw [← h.cell] at c0 c1 c2 d0 d1 d2
  rw [show 3 * i = i * 3 by omega] at c0 c1 c2 ⊢
  rw [show 3 * j = j * 3 by omega] at d0 d1 d2 ⊢
  have f0 := h.free (i * 3)
  have f1 := h.free (i * 3 + 1)
  have f2 := h.free (i * 3 + 2)
  have g0 := h.free (j * 3)
  have g1 := h.free (j * 3 + 1)
  have g2 := h.free (j * 3 + 2)
  have n1 : i * 3 ≠ j * 3 := by omega
  have n2 : i * 3 + 1 ≠ j * 3 := by omega
  have n3 : i * 3 + 2 ≠ j * 3 := by omega
  have n4 : i * 3 ≠ j * 3 + 1 := by omega
  have n5 : i * 3 ≠ j * 3 + 2 := by omega
  have HB := Lib.hid h
  clear h
  obtain ⟨x1, x2, x3⟩ := x
  obtain ⟨y1, y2, y3⟩ := y
  dsimp only at *
  go_enter Try.func54, Try.ntmps54
  go_wp2
  go_region
  all_goals go_end0
  all_goals
    refine ⟨rfl, ?_, ?_⟩
    · exact (((((((HB.out.set (i * 3) (.int .u32 y1)).set (i * 3 + 1) (.int .u32 y2)).set (i * 3 + 2) (.int .u32 y3)).set (j * 3) (.int .u32 x1)).set (j * 3 + 1) (.int .u32 x2)).set (j * 3 + 2) (.int .u32 x3))).drew
    · exact (((((((Turn.refl w (fun k => k = b)).set rfl _).set rfl _).set rfl _).set rfl _).set rfl _).set rfl _).drew
set_option maxRecDepth 100000 in
set_option maxHeartbeats 8000000 in
theorem swapEq (w : World) (b n c : Nat) (cs : List Value) (i : Nat) (x : En) (h : Blk w b 40 cs) (hi : i < n)
    (c0 : cs[3 * i]? = some (.int .u32 x.s)) (c1 : cs[3 * i + 1]? = some (.int .u32 x.src)) (c2 : cs[3 * i + 2]? = some (.int .u32 x.inn)) :
    Calls Try.prog 54 #[.slice (some ⟨b, 0, none⟩) n c, .int .i64 (i : Int), .int .i64 (i : Int)] w (Swapped b ((((((cs.set (3 * i) (.int .u32 x.s)).set (3 * i + 1) (.int .u32 x.src)).set (3 * i + 2) (.int .u32 x.inn)).set (3 * i) (.int .u32 x.s)).set (3 * i + 1) (.int .u32 x.src)).set (3 * i + 2) (.int .u32 x.inn)) w) := by
  have i1 : (i : Int) < (n : Int) := by omega
  have i3 : (0 : Int) ≤ (i : Int) := by omega
  rw [← h.cell] at c0 c1 c2
  rw [show 3 * i = i * 3 by omega] at c0 c1 c2 ⊢
  have f0 := h.free (i * 3)
  have f1 := h.free (i * 3 + 1)
  have f2 := h.free (i * 3 + 2)
  have HB := Lib.hid h
  clear h
  obtain ⟨x1, x2, x3⟩ := x
  dsimp only at *
  go_enter Try.func54, Try.ntmps54
  go_wp2
  go_region
  all_goals go_end0
  all_goals
    refine ⟨rfl, ?_, ?_⟩
    · exact (((((((HB.out.set (i * 3) (.int .u32 x1)).set (i * 3 + 1) (.int .u32 x2)).set (i * 3 + 2) (.int .u32 x3)).set (i * 3) (.int .u32 x1)).set (i * 3 + 1) (.int .u32 x2)).set (i * 3 + 2) (.int .u32 x3))).drew
    · exact (((((((Turn.refl w (fun k => k = b)).set rfl _).set rfl _).set rfl _).set rfl _).set rfl _).set rfl _).drew

theorem swap (b n c : Nat) (sp : List Value) (w0 : World) (d : Array En) (w : World) (i j : Nat) (h : Rw b n sp w0 d w) (hi : i < n) (hj : j < n) :
    Calls Try.prog 54 #[rowV b n c, .int .i64 (i : Int), .int .i64 (j : Int)] w (Left b n sp w0 (swp d i j)) := by
  have hi2 : i < d.size := by rw [h.sz]; exact hi
  have hj2 : j < d.size := by rw [h.sz]; exact hj
  have ca := fun k hk => cells_at (sp := sp) hi2 k hk
  have cb := fun k hk => cells_at (sp := sp) hj2 k hk
  have fin : ∀ e w', Swapped b ((((((Cells d sp).set (3 * i) (.int .u32 d[j]!.s)).set (3 * i + 1) (.int .u32 d[j]!.src)).set (3 * i + 2) (.int .u32 d[j]!.inn)).set (3 * j) (.int .u32 d[i]!.s)).set (3 * j + 1) (.int .u32 d[i]!.src) |>.set (3 * j + 2) (.int .u32 d[i]!.inn)) w e w' → Left b n sp w0 (swp d i j) e w' := by
    rintro e w' ⟨rfl, hb, ht⟩
    rw [← cells_swp hi2 hj2] at hb
    exact ⟨rfl, h.turn.trans ht, hb, by rw [sq.swp_size]; exact h.sz, h.lt⟩
  by_cases hij : i = j
  · subst hij
    exact (swapEq w b n c (Cells d sp) i d[i]! h.blk hi (ca 0 (by omega)) (ca 1 (by omega)) (ca 2 (by omega))).mono fin
  · exact (swapNe w b n c (Cells d sp) i j d[i]! d[j]! h.blk hi hj hij (ca 0 (by omega)) (ca 1 (by omega)) (ca 2 (by omega)) (cb 0 (by omega)) (cb 1 (by omega)) (cb 2 (by omega))).mono fin
end Go.Proofs.Ytbnkhpbgibgahaa.so
