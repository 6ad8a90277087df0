/-
  FollowSymbols over this seat's program at a symbol without a link: the reference itself comes back.
  Conditions: the symbol's row is readable, its link is ast.InvalidRef.
-/
import Derived.Test.YtilhckihpgfkfaaDoorWork1
import Derived.LoopTactic
import Derived.Outline
import Derived.IntWalk
import Derived.OwnWalk
import Derived.Deep.QuietTactic
import Derived.BigQuiet
import Derived.BigRegion
import Derived.Deep.RegionWith
import Derived.StillTailTactics
import Derived.Deep.DeepCutAuto
namespace Go.Proofs.YtilhckihpgfkfaaDoor.sr
open Go.ChangeShapes Go.WideShapes Go.ChangeAt Go.RowKit
open kit

theorem eqIn (W : World) (a b c d : Int) : (Op.equalIn 10000 125 (.agg #[.int .u32 a, .int .u32 b]) (.agg #[.int .u32 c, .int .u32 d])).run Tryd.prog W = .ok (a == c && b == d) W := by
  by_cases h1 : a = c
  · subst h1
    by_cases h2 : b = d
    · subst h2
      go_simp
    · have h3 : (b == d) = false := by simpa using h2
      go_simp
  · have h3 : (a == c) = false := by simpa using h1
    go_simp
theorem eqR (W : World) (a b c d : Int) : (binOp .eql 125 (.agg #[.int .u32 a, .int .u32 b]) (.agg #[.int .u32 c, .int .u32 d])).run Tryd.prog W = .ok (.bool (a == c && b == d)) W := by
  rw [run_eql_struct, eqIn]; rfl
/-- the symbols of source 0: eight, none linked -/
structure Sy (w : World) (g s0 : Nat) : Prop where
  r0 : w.cell? ⟨g, 0, none⟩ = some (.slice (some ⟨s0, 0, none⟩) 8 8)
  lk : ∀ j, j < 8 → w.cell? ⟨s0, j * 10 + 2, none⟩ = some (.int .u32 4294967295) ∧ w.cell? ⟨s0, j * 10 + 3, none⟩ = some (.int .u32 4294967295)
theorem Sy.kept {w w2 : World} {g s0 : Nat} (h : Sy w g s0) (k : Kept w w2) : Sy w2 g s0 := ⟨k.cell h.r0, fun j hj => ⟨k.cell (h.lk j hj).1, k.cell (h.lk j hj).2⟩⟩
def Got (w : World) (s0 j : Nat) (e : Ending) (w' : World) : Prop := e = .returned (.pointer (some ⟨s0, j * 10, none⟩)) ∧ Kept w w'
set_option maxRecDepth 100000 in
set_option maxHeartbeats 4000000 in
theorem get (w : World) (g s0 j : Nat) (h : Sy w g s0) (hj : j < 8) : Calls Tryd.prog 18 #[.agg #[.slice (some ⟨g, 0, none⟩) 2 2], .agg #[.int .u32 0, .int .u32 (j : Int)]] w (Got w s0 j) := by
  have x0 := h.r0
  have j1 : (j : Int) < 8 := by omega
  clear h
  go_enter Tryd.func18, Tryd.ntmps18
  go_upto_region 1 with fail
  obtain ⟨w1, hw1⟩ : ∃ w1, w1 = (w.alloc (.cells #[.slice (some ⟨g, 0, none⟩) 2 2] 113)).alloc (.cells #[.int .u32 0, .int .u32 (j : Int)] 125) := ⟨_, rfl⟩
  have K1 : Hid (Kept w w1) := Lib.hid (by rw [hw1]; exact ((Kept.refl w).alloc _).alloc _)
  have x1 := K1.out.cell x0
  have B1 : Blk w1 w.heap.size 113 [.slice (some ⟨g, 0, none⟩) 2 2] := by rw [hw1]; exact (Blk.new w 113 [.slice (some ⟨g, 0, none⟩) 2 2]).alloc _
  have B2 : Blk w1 (w.heap.size + 1) 125 [.int .u32 0, .int .u32 (j : Int)] := by
    rw [hw1]
    have := Blk.new (w.alloc (.cells #[.slice (some ⟨g, 0, none⟩) 2 2] 113)) 125 [.int .u32 0, .int .u32 (j : Int)]
    simpa using this
  have y0 : w1.cell? ⟨w.heap.size, 0, none⟩ = some (.slice (some ⟨g, 0, none⟩) 2 2) := B1.cell 0
  have y1 : w1.cell? ⟨w.heap.size + 1, 0, none⟩ = some (.int .u32 0) := B2.cell 0
  have y2 : w1.cell? ⟨w.heap.size + 1, 1, none⟩ = some (.int .u32 (j : Int)) := B2.cell 1
  rw [← hw1]
  clear hw1 x0 B1 B2
  go_quiet (fail)
  go_wp2_with fail
  go_ret
  exact ⟨rfl, K1.out.drewN _⟩
def Followed (w : World) (j : Nat) (e : Ending) (w' : World) : Prop := e = .returned (.agg #[.int .u32 0, .int .u32 (j : Int)]) ∧ Kept w w'
set_option maxRecDepth 100000 in
set_option maxHeartbeats 4000000 in
theorem follow (w : World) (g s0 j : Nat) (h : Sy w g s0) (hj : j < 8) (hi0 : w.cell? ⟨0, 0, none⟩ = some (.int .u32 4294967295)) (hi1 : w.cell? ⟨0, 1, none⟩ = some (.int .u32 4294967295)) : Calls Tryd.prog 16 #[.agg #[.slice (some ⟨g, 0, none⟩) 2 2], .agg #[.int .u32 0, .int .u32 (j : Int)]] w (Followed w j) := by
  have HY := Lib.hid h
  have HI0 := Lib.hid hi0
  have HI1 := Lib.hid hi1
  have heq := fun W => eqR W 4294967295 4294967295 4294967295 4294967295
  clear h hi0 hi1
  go_enter Tryd.func16, Tryd.ntmps16
  go_upto_region 1 with fail
  obtain ⟨w1, hw1⟩ : ∃ w1, w1 = (((w.alloc (.cells #[.slice (some ⟨g, 0, none⟩) 2 2] 113)).alloc (.cells #[.int .u32 0, .int .u32 (j : Int)] 125)).alloc (.cells #[.int .u32 0, .int .u32 0] 125)) := ⟨_, rfl⟩
  have K1 : Hid (Kept w w1) := Lib.hid (by rw [hw1]; exact (((Kept.refl w).alloc _).alloc _).alloc _)
  have B1 : Hid (Blk w1 w.heap.size 113 [.slice (some ⟨g, 0, none⟩) 2 2]) := Lib.hid (by rw [hw1]; exact ((Blk.new w 113 [.slice (some ⟨g, 0, none⟩) 2 2]).alloc _).alloc _)
  have B2 : Hid (Blk w1 (w.heap.size + 1) 125 [.int .u32 0, .int .u32 (j : Int)]) := Lib.hid (by
    rw [hw1]
    have := (Blk.new (w.alloc (.cells #[.slice (some ⟨g, 0, none⟩) 2 2] 113)) 125 [.int .u32 0, .int .u32 (j : Int)]).alloc (.cells #[.int .u32 0, .int .u32 0] 125)
    simpa using this)
  have B3 : Hid (Blk w1 (w.heap.size + 1 + 1) 125 [.int .u32 0, .int .u32 0]) := Lib.hid (by
    rw [hw1]
    have := Blk.new ((w.alloc (.cells #[.slice (some ⟨g, 0, none⟩) 2 2] 113)).alloc (.cells #[.int .u32 0, .int .u32 (j : Int)] 125)) 125 [.int .u32 0, .int .u32 0]
    simpa using this)
  rw [← hw1]
  clear hw1
  have y0 : w1.cell? ⟨w.heap.size, 0, none⟩ = some (.slice (some ⟨g, 0, none⟩) 2 2) := B1.out.cell 0
  have y1 : w1.cell? ⟨w.heap.size + 1, 0, none⟩ = some (.int .u32 0) := B2.out.cell 0
  have y2 : w1.cell? ⟨w.heap.size + 1, 1, none⟩ = some (.int .u32 (j : Int)) := B2.out.cell 1
  have HS := Lib.hid (Nat.le_refl w.heap.size)
  generalize hz : w.heap.size = q at *
  have HZ := Lib.hid hz
  clear hz HS
  go_wp2_with fail
  refine (get w1 g s0 j (HY.out.kept K1.out) hj).mono ?_
  rintro e w2 ⟨rfl, k2⟩
  have l1 := k2.cell (K1.out.cell (HY.out.lk j hj).1)
  have l2 := k2.cell (K1.out.cell (HY.out.lk j hj).2)
  have g1 := k2.cell (K1.out.cell HI0.out)
  have g2 := k2.cell (K1.out.cell HI1.out)
  have K2 := Lib.hid (K1.out.trans k2)
  have B22 := Lib.hid (B2.out.kept k2)
  have B32 := Lib.hid (B3.out.kept k2)
  clear y0 y1 y2 k2 K1 B1 B2 B3
  go_upto_region 2 with fail
  go_quiet (fail)
  clear l1 l2 g1 g2 heq
  have K3 := Lib.hid (K2.out.drewN nq)
  have B23 := Lib.hid (B22.out.drewN nq)
  have B33 := Lib.hid (B32.out.drewN nq)
  generalize w2.drewN nq = w3 at *
  clear K2 B22 B32
  have y1 : w3.cell? ⟨q + 1, 0, none⟩ = some (.int .u32 0) := B23.out.cell 0
  have y2 : w3.cell? ⟨q + 1, 1, none⟩ = some (.int .u32 (j : Int)) := B23.out.cell 1
  have y3 : w3.cell? ⟨q + 1 + 1, 0, none⟩ = some (.int .u32 0) := B33.out.cell 0
  have y4 : w3.cell? ⟨q + 1 + 1, 1, none⟩ = some (.int .u32 0) := B33.out.cell 1
  have y3f := B33.out.free 0
  have y4f := B33.out.free 1
  go_wp2_with fail
  have B5 : Blk ((w3.setCell ⟨q + 1 + 1, 0, none⟩ (.int .u32 0)).setCell ⟨q + 1 + 1, 1, none⟩ (.int .u32 (j : Int))) (q + 1 + 1) 125 [.int .u32 0, .int .u32 (j : Int)] := (B33.out.set 0 (.int .u32 0)).set 1 (.int .u32 (j : Int))
  have K5 := (K3.out.setCell (p := ⟨q + 1 + 1, 0, none⟩) (by rw [HZ.out]; exact Nat.le_add_right q 2) (.int .u32 0)).setCell (p := ⟨q + 1 + 1, 1, none⟩) (by rw [HZ.out]; exact Nat.le_add_right q 2) (.int .u32 (j : Int))
  clear y1 y2 y3 y4 y3f y4f
  generalize (w3.setCell ⟨q + 1 + 1, 0, none⟩ (.int .u32 0)).setCell ⟨q + 1 + 1, 1, none⟩ (.int .u32 (j : Int)) = w5 at *
  have z0 : w5.cell? ⟨q + 1 + 1, 0, none⟩ = some (.int .u32 0) := B5.cell 0
  have z1 : w5.cell? ⟨q + 1 + 1, 1, none⟩ = some (.int .u32 (j : Int)) := B5.cell 1
  exact bodyPost_ret (v := .agg #[.int .u32 0, .int .u32 (j : Int)]) (by simp [results, Tryd.results16, go_sem, z0, z1]) rfl ⟨rfl, K5⟩
end Go.Proofs.YtilhckihpgfkfaaDoor.sr
