/-
  The law's maker of the map of mangled names over this seat's program.
  Conditions: at most 65536 names.
-/
import Derived.Test.YthjoelmmpmnfeaaDoorBs
import Derived.LoopTactic
import Derived.Outline
import Derived.IntWalk
import Derived.Deep.QuietTactic
import Derived.BigQuiet
import Derived.Deep.RegionHeld3
import Derived.Deep.RegionWith
import Derived.StillTailTactics
import Derived.Deep.DeepCutAuto
import Derived.Deep.RegionLaw
import Derived.Carry
namespace Go.Proofs.YthjoelmmpmnfeaaDoor.mp
open Go.ChangeShapes Go.WideShapes Go.ChangeAt Go.RowKit
open kit chain arena
open Go.Maps (Keyed)
open Go.ChangeMaps (setBlock)

theorem laidOut : laidOutB Tryd.prog = true := by kernel_rfl
theorem K40 : Keyed Tryd.prog 40 := Keyed.of_law (deep_law_laid laidOut (m := 2) (by omega) (of_decide_eq_true (by kernel_rfl)) (by kernel_rfl) (by kernel_rfl))
theorem cc25 : Tryd.prog.cellsOf 25 = 1 := by kernel_rfl
theorem cc40 : Tryd.prog.cellsOf 40 = 2 := by kernel_rfl
theorem kt40 : Tryd.prog.keyType 40 = true := by kernel_rfl
theorem wf32 (i : Nat) (h : i ≤ 4294967295) : (Lit.int .u32 (i : Int)).wf = true := by
  simp only [Lit.wf, Bool.and_eq_true, decide_eq_true_eq]
  have a : (0 : Int) ≤ (i : Int) := by omega
  have b : (i : Int) ≤ 4294967295 := by omega
  exact ⟨a, b⟩
set_option maxRecDepth 100000 in
theorem key40 (i : Nat) (h : i ≤ 4294967295) : ∃ kl, keyOf Tryd.prog 40 (key i) = some kl := by
  have hw1 := wf32 i h
  have hw0 : (Lit.int .u32 0).wf = true := wf32 0 (by omega)
  have k2 : (key i).formed Tryd.prog 40 = true := by
    unfold key Value.formed
    simp only [Tryd.underlying40, cc40]
    rfl
  obtain ⟨M, hM⟩ : ∃ M, Tryd.prog.types.size = M + 1 := ⟨Tryd.prog.types.size - 1, by have : 0 < Tryd.prog.types.size := of_decide_eq_true (by kernel_rfl); omega⟩
  unfold keyOf
  rw [Tryd.underlying40]
  simp only [kt40, k2, Bool.and_true, if_true, hM]
  have hl : ∃ ls, Tryd.prog.keyLits (M + 1 + 1) 40 (key i).cells.toList = some ls := by
    unfold key Value.cells
    simp [Program.keyLits, Tryd.underlying40, Tryd.underlying25, cc40, cc25, hw0, hw1]
  obtain ⟨ls, hls⟩ := hl
  rw [hls]
  exact ⟨_, rfl⟩
theorem kept_setBlock {w W : World} {b : Nat} (h : Kept w W) (hb : w.heap.size ≤ b) (ob : Obj) : Kept w (setBlock W b ob) := by
  refine ⟨h.os, h.tape, h.output, by simpa [setBlock] using h.size, fun k hk => ?_⟩
  have : (setBlock W b ob).heap[k]? = W.heap[k]? := by
    unfold setBlock
    simp only
    rw [Array.getElem?_setIfInBounds]
    simp [show b ≠ k by omega]
  exact this.trans (h.block k hk)
def M12 (w : World) (hs : List Bool) (ms : List ByteArray) (n : Nat) (t6 : Value) (W : World) : Prop := ∃ k m : Nat, k ≤ n ∧ t6 = .int .i64 (k : Int) ∧ mapf.MapF Tryd.prog 40 W w.heap.size m (mf hs ms k) ∧ Kept w W
def MapOut (w : World) (hs : List Bool) (ms : List ByteArray) (n : Nat) (e : Ending) (w' : World) : Prop := e = .returned (.map (some w.heap.size)) ∧ (∃ m, mapf.MapF Tryd.prog 40 w' w.heap.size m (mf hs ms n)) ∧ Kept w w'
set_option maxRecDepth 100000 in
set_option maxHeartbeats 8000000 in
theorem mangle (A0 A1 : Option Addr) (n c0 c1 : Nat) (hs : List Bool) (ms : List ByteArray) (w : World) (h0 : Bools w A0 n hs) (h1 : Strs w A1 n ms) (hn : n ≤ 65536) :
    Calls Tryd.prog 12 #[.slice A0 n c0, .slice A1 n c1] w (MapOut w hs ms n) := by
  have hmm : ∀ W : World, (Instr.makeMap 36 none).run Tryd.prog W = .ok (.map (some W.heap.size)) (W.alloc (.map #[] 0)) := fun _ => rfl
  have H0 := Lib.hid h0
  have H1 := Lib.hid h1
  have HM0 : Hid (M12 w hs ms n (.int .i64 0) (w.alloc (.map #[] 0))) := Lib.hid ⟨0, 0, Nat.zero_le _, rfl, by rw [mf_zero]; exact mapf.MapF.made _ _ _, (Kept.refl _).alloc _⟩
  clear h0 h1
  go_enter Tryd.func12, Tryd.ntmps12
  go_wp2_with fail
  generalize w.alloc (.map #[] 0) = wa at *
  clear hmm
  go_loopw [6] (fun t6 W => M12 w hs ms n t6 W) (fun t6 _ => n - (intOf t6).toNat)
  case atStart => exact HM0.out
  case round =>
    obtain ⟨k, m, hk, rfl, hM, hK⟩ := hrel
    have HM := Lib.hid hM
    have HK := Lib.hid hK
    clear hM hK HM0
    by_cases hlt : k < n
    · obtain ⟨b0, o0, rfl, hb0, hc0⟩ := H0.out.2 (by omega)
      obtain ⟨b1, o1, rfl, hb1, hc1⟩ := H1.out.2 (by omega)
      have x0 := HK.out.cell (hc0 k hlt)
      have x1 := HK.out.cell (hc1 k hlt)
      have hki : (k : Int) < (n : Int) := by omega
      clear hc0 hc1
      cases hh : hs.getD k false
      · rw [hh] at x0
        have HN : Hid (M12 w hs ms n (.int .i64 ((k : Int) + 1)) wr) := Lib.hid ⟨k + 1, m, by omega, by go_num, by rw [mf_no ms hh]; exact HM.out, HK.out⟩
        clear hh
        go_wp2_with fail
        go_roundw
        case rel => first | exact HN.out | ((repeat apply Exists.intro); exact ⟨HN.out, rfl⟩)
        case measure => simp [intOf]; omega
      · rw [hh] at x0
        obtain ⟨kl, hkl⟩ := key40 k (by omega)
        have HST : Hid (∀ W : World, Kept wr W → ∃ ob, (Instr.mapUpdate 36 (.map (some w.heap.size)) (.agg #[.int .u32 0, .int .u32 (k : Int)]) (.string (ms.getD k ByteArray.empty))).run Tryd.prog W = .ok () (setBlock W w.heap.size ob) ∧ Hid (M12 w hs ms n (.int .i64 ((k : Int) + 1)) (setBlock W w.heap.size ob))) := Lib.hid (fun W hW => by
          obtain ⟨ob, h1, h2⟩ := (HM.out.kept hW).store K40 Tryd.underlying36 hkl (.string (ms.getD k ByteArray.empty))
          rw [mf_put ms hh] at h2
          exact ⟨ob, h1, Lib.hid ⟨k + 1, _, by omega, by go_num, h2, kept_setBlock (HK.out.trans hW) (Nat.le_refl _) ob⟩⟩)
        have W32 : IntKind.u32.wrap (k : Int) = (k : Int) := by rw [IntKind.wrap_u32]; omega
        clear hh hkl
        generalize ms.getD k ByteArray.empty = nm at *
        go_upto_region 6 with fail
        go_region_with (go_at_call 14; refine (zref (k : Int) _).mono ?_; rintro e w1 ⟨rfl, k1⟩; have kk := (Kept.refl wr).drew.trans k1; have x2 := kk.cell x1; obtain ⟨ob, hrun, HMN⟩ := HST.out _ kk)
        all_goals
          go_wp2_with fail
          go_roundw
          case rel => first | exact HMN.out | ((repeat apply Exists.intro); exact ⟨HMN.out, rfl⟩)
          case measure => simp [intOf]; omega
    · obtain rfl : k = n := by omega
      go_wp2_with fail
      go_ret
      exact ⟨rfl, ⟨m, HM.out⟩, HK.out⟩
end Go.Proofs.YthjoelmmpmnfeaaDoor.mp
