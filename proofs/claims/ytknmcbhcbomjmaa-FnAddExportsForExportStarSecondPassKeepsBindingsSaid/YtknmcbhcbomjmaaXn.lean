/-
  exportEntryNames over this seat's program: it says yes to an entry that names its export.
  Conditions: the file is reached and exports the name there.
-/
import Derived.Test.YtknmcbhcbomjmaaXg
import Derived.Test.YtknmcbhcbomjmaaWork
namespace Go.Proofs.Ytknmcbhcbomjmaa.xs
open Go.ChangeShapes Go.WideShapes Go.ChangeAt Go.RowKit
open kit
def YesKept (w : World) (e : Ending) (w' : World) : Prop := e = .returned (.bool true) ∧ Kept w w'
set_option maxRecDepth 100000 in
set_option maxHeartbeats 4000000 in
theorem names (w : World) (b off n c q1 : Nat) (t j : Nat) (R : Nat → Bool) (f : EF) (hn : n ≤ 256) (ht : t < n) (hf : FileAt w b (off + t * 3) f) (hq : Bools w q1 n R) (hR : R t = true) (hj : j < f.ex.length) (hl : f.ex.length ≤ 4096) :
    Calls Try.prog 10 #[.slice (some ⟨b, off, none⟩) n c, .slice (some ⟨q1, 0, none⟩) n n, .int .u32 (t : Int), .agg #[.int .u32 (t : Int), .int .u32 (j : Int)], .string (f.ex.getD j ByteArray.empty)] w (YesKept w) := by
  obtain ⟨ek, ex, sr, ia, ic, ia2, ic2⟩ := f
  dsimp only at hj hl ⊢
  obtain ⟨_, c1, _, hr, _⟩ := hf
  dsimp only at c1 hr
  obtain ⟨b2, o2, rfl, _, x0⟩ := hr.at_ ByteArray.empty hj
  have q0 := hq.cell ht
  rw [hR] at q0
  have W1 : IntKind.u32.wrap (n : Int) = (n : Int) := by rw [IntKind.wrap_u32]; omega
  have W2 : IntKind.u32.wrap (ex.length : Int) = (ex.length : Int) := by rw [IntKind.wrap_u32]; omega
  have t1 : (t : Int) < (n : Int) := by omega
  have j1 : (j : Int) < (ex.length : Int) := by omega
  have d1 : decide (n ≤ t) = false := by simp; omega
  have d2 : decide (ex.length ≤ j) = false := by simp; omega
  have ka : Kept w (w.alloc (.cells #[.int .u32 (t : Int), .int .u32 (j : Int)] 44)) := (Kept.refl w).alloc _
  have HK := Lib.hid ka
  have c1 := ka.cell c1
  have x0 := ka.cell x0
  have q0 := ka.cell q0
  have hb := Blk.new w 44 [.int .u32 (t : Int), .int .u32 (j : Int)]
  have y0 : (w.alloc (.cells #[.int .u32 (t : Int), .int .u32 (j : Int)] 44)).cell? ⟨w.heap.size, 0, none⟩ = some (.int .u32 (t : Int)) := hb.cell 0
  have y1 : (w.alloc (.cells #[.int .u32 (t : Int), .int .u32 (j : Int)] 44)).cell? ⟨w.heap.size, 1, none⟩ = some (.int .u32 (j : Int)) := hb.cell 1
  clear hr hq hb ka
  generalize ex.getD j ByteArray.empty = s at *
  go_enter Try.func10, Try.ntmps10
  go_wp2_with fail
  go_ret
  exact ⟨rfl, HK.out⟩
end Go.Proofs.Ytknmcbhcbomjmaa.xs
