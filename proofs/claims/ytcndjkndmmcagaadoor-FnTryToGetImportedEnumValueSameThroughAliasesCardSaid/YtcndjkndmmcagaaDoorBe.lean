/-
  The law's maker of the map of enum tables over this seat's program.
  Conditions: at most 65536 entries; the slices are readable.
-/
import Derived.Test.YtcndjkndmmcagaaDoorBs
import Derived.Test.YtcndjkndmmcagaaDoorSv
import Derived.IntWalk
import Derived.Deep.RegionHeld3
import Derived.Deep.RegionWith
import Derived.StillTailTactics
import Derived.Deep.RegionLaw
import Derived.Carry
import Derived.StringKeys
namespace Go.Proofs.YtcndjkndmmcagaaDoor.mp
open Go.ChangeShapes Go.WideShapes Go.ChangeAt Go.RowKit
open kit chain arena
open Go.Maps (Keyed)
open Go.ChangeMaps (setBlock)

theorem laidOut : laidOutB Tryd.prog = true := by kernel_rfl
theorem K50 : Keyed Tryd.prog 50 := Keyed.of_law (deep_law_laid laidOut (m := 2) (by omega) (of_decide_eq_true (by kernel_rfl)) (by kernel_rfl) (by kernel_rfl))
theorem K9 : Keyed Tryd.prog 9 := Keyed.of_law (WideMaps.string_law (by kernel_rfl))
theorem cc27 : Tryd.prog.cellsOf 27 = 1 := by kernel_rfl
theorem cc50 : Tryd.prog.cellsOf 50 = 2 := by kernel_rfl
theorem kt50 : Tryd.prog.keyType 50 = true := by kernel_rfl
theorem kt9 : Tryd.prog.keyType 9 = true := by kernel_rfl
theorem wf32 (i : Nat) (h : i ≤ 4294967295) : (Lit.int .u32 (i : Int)).wf = true := by
  simp only [Lit.wf, Bool.and_eq_true, decide_eq_true_eq]
  have a : (0 : Int) ≤ (i : Int) := by omega
  have b : (i : Int) ≤ 4294967295 := by omega
  exact ⟨a, b⟩
set_option maxRecDepth 100000 in
theorem key50 (i : Nat) (h : i ≤ 4294967295) : ∃ kl, keyOf Tryd.prog 50 (key i) = some kl := by
  have hw1 := wf32 i h
  have hw0 : (Lit.int .u32 0).wf = true := wf32 0 (by omega)
  have k2 : (key i).formed Tryd.prog 50 = true := by
    unfold key Value.formed
    simp only [Tryd.underlying50, cc50]
    rfl
  obtain ⟨M, hM⟩ : ∃ M, Tryd.prog.types.size = M + 1 := ⟨Tryd.prog.types.size - 1, by have : 0 < Tryd.prog.types.size := of_decide_eq_true (by kernel_rfl); omega⟩
  unfold keyOf
  rw [Tryd.underlying50]
  simp only [kt50, k2, Bool.and_true, if_true, hM]
  have hl : ∃ ls, Tryd.prog.keyLits (M + 1 + 1) 50 (key i).cells.toList = some ls := by
    unfold key Value.cells
    simp [Program.keyLits, Tryd.underlying50, Tryd.underlying27, cc50, cc27, hw0, hw1]
  obtain ⟨ls, hls⟩ := hl
  rw [hls]
  exact ⟨_, rfl⟩
theorem key9 (s : ByteArray) (h : s.size ≤ 1048576) : ∃ kl, keyOf Tryd.prog 9 (.string s) = some kl := by
  unfold keyOf
  rw [Tryd.underlying9]
  have h2 : s.size ≤ maxLen := by unfold maxLen; omega
  simp [mapKey, Tryd.underlying9, h2]
theorem kept_setBlock {w W : World} {b : Nat} (h : Kept w W) (hb : w.heap.size ≤ b) (ob : Obj) : Kept w (setBlock W b ob) := by
  refine ⟨h.os, h.tape, h.output, by simpa [setBlock] using h.size, fun k hk => ?_⟩
  have : (setBlock W b ob).heap[k]? = W.heap[k]? := by
    unfold setBlock
    simp only
    rw [Array.getElem?_setIfInBounds]
    simp [show b ≠ k by omega]
  exact this.trans (h.block k hk)

def M14 (w0 w : World) (n : Nat) (t : Value) (W : World) : Prop := ∃ (k m : Nat) (f : Value → Option Value), k ≤ n ∧ t = .int .i64 (k : Int) ∧ mapf.MapF Tryd.prog 9 W (w.heap.size + 1) m f ∧ (∀ x v, f x = some v → Good w0 v) ∧ mapf.MapF Tryd.prog 50 W w.heap.size 0 (fun _ => none) ∧ Kept w W
theorem M14.next {w0 w wr W : World} {n k m : Nat} {f : Value → Option Value} (hk : k < n) (hM : mapf.MapF Tryd.prog 9 wr (w.heap.size + 1) m f) (hG : ∀ x v, f x = some v → Good w0 v) (hO : mapf.MapF Tryd.prog 50 wr w.heap.size 0 (fun _ => none)) (hK : Kept w wr) (k1 : Kept wr W) (s : ByteArray) (hs : s.size ≤ 1048576) (v : Value) (hv : Good w0 v) :
    ∃ ob, (Instr.mapUpdate 66 (.map (some (w.heap.size + 1))) (.string s) v).run Tryd.prog W = .ok () (setBlock W (w.heap.size + 1) ob) ∧ M14 w0 w n (.int .i64 ((k : Int) + 1)) (setBlock W (w.heap.size + 1) ob) := by
  obtain ⟨kl, hkl⟩ := key9 s hs
  obtain ⟨ob, h1, h2⟩ := (hM.kept k1).store K9 Tryd.underlying66 hkl v
  refine ⟨ob, h1, k + 1, _, _, by omega, by go_num, h2, fun x u hx => ?_, (hO.kept k1).of_block ?_, kept_setBlock (hK.trans k1) (by omega) ob⟩
  · by_cases e : x = .string s
    · rw [e, mapf.put_same] at hx
      exact Option.some.inj hx ▸ hv
    · rw [mapf.put_ne _ _ e] at hx
      exact hG x u hx
  · unfold setBlock
    simp only
    rw [Array.getElem?_setIfInBounds]
    simp
/-- what comes back: a map of maps of readable values -/
def EnumsOut (w0 w : World) (e : Ending) (w' : World) : Prop := ∃ F : Value → Option Value, e = .returned (.map (some w.heap.size)) ∧ (∃ m, mapf.MapF Tryd.prog 50 w' w.heap.size m F) ∧ Kept w w' ∧
  ∀ x v, F x = some v → ∃ (mb m : Nat) (f : Value → Option Value), v = .map (some mb) ∧ w.heap.size ≤ mb ∧ mapf.MapF Tryd.prog 9 w' mb m f ∧ ∀ y u, f y = some u → Good w0 u
set_option maxRecDepth 100000 in
set_option maxHeartbeats 8000000 in
theorem enums (t : Int) (A0 A1 A2 : Option Addr) (n c0 c1 c2 : Nat) (ss : List ByteArray) (xs : List Nat) (vs : List Value) (w0 w : World) (k0 : Kept w0 w) (ht : -2147483648 ≤ t ∧ t ≤ 2147483647) (h0 : Strs w A0 n ss) (hs : Small n ss) (h1 : Flos w A1 n xs) (h2 : Rows16 w0 A2 n vs) (hn : n ≤ 65536) :
    Calls Tryd.prog 14 #[.int .i32 t, .slice A0 n c0, .slice A1 n c1, .slice A2 n c2] w (EnumsOut w0 w) := by
  have hm1 : ∀ W : World, (Instr.makeMap 41 none).run Tryd.prog W = .ok (.map (some W.heap.size)) (W.alloc (.map #[] 0)) := fun _ => rfl
  have hm2 : ∀ W : World, (Instr.makeMap 66 none).run Tryd.prog W = .ok (.map (some W.heap.size)) (W.alloc (.map #[] 0)) := fun _ => rfl
  have H0 := Lib.hid h0
  have HS := Lib.hid hs
  have H1 := Lib.hid h1
  have H2 := Lib.hid h2
  have HK0 := Lib.hid k0
  clear h0 hs h1 h2 k0
  by_cases neg : t < 0
  · go_enter Tryd.func14, Tryd.ntmps14
    go_wp2_with fail
    go_ret
    exact ⟨fun _ => none, rfl, ⟨0, mapf.MapF.made _ _ _⟩, (Kept.refl _).alloc _, fun x v h => by cases h⟩
  · obtain ⟨i, rfl⟩ := Int.eq_ofNat_of_zero_le (show 0 ≤ t by omega)
    have W32 : IntKind.u32.wrap (i : Int) = (i : Int) := by rw [IntKind.wrap_u32]; omega
    have HM0 : Hid (M14 w0 w n (.int .i64 0) ((w.alloc (.map #[] 0)).alloc (.map #[] 0))) := Lib.hid ⟨0, 0, fun _ => none, Nat.zero_le _, rfl, by
      have := mapf.MapF.made Tryd.prog 9 (w.alloc (.map #[] 0))
      simpa using this, fun x v h => (by cases h), (mapf.MapF.made Tryd.prog 50 w).kept ((Kept.refl _).alloc _), ((Kept.refl _).alloc _).alloc _⟩
    go_enter Tryd.func14, Tryd.ntmps14
    go_wp2_with fail
    generalize (w.alloc (.map #[] 0)).alloc (.map #[] 0) = wa at *
    clear hm1 hm2
    go_loopw [11] (fun t W => M14 w0 w n t W) (fun t _ => n - (intOf t).toNat)
    case atStart => exact HM0.out
    case round =>
      obtain ⟨k, m, f, hk, rfl, hM, hG, hO, hK⟩ := hrel
      have HM := Lib.hid hM
      have HG := Lib.hid hG
      have HO := Lib.hid hO
      have HK := Lib.hid hK
      clear hM hG hO hK HM0
      by_cases hlt : k < n
      · obtain ⟨b0, o0, rfl, hb0, hc0⟩ := H0.out.2 (by omega)
        obtain ⟨b1, o1, rfl, hb1, hc1⟩ := H1.out.2 (by omega)
        obtain ⟨b2, o2, rfl, hb2, hc2⟩ := H2.out.2.2 (by omega)
        obtain ⟨au, nu, cu, zu, eu, ru⟩ := H2.out.2.1 k hlt
        have x0 := HK.out.cell (hc0 k hlt)
        have x1 := HK.out.cell (hc1 k hlt)
        have x2 := HK.out.cell (HK0.out.cell (hc2 k hlt))
        rw [eu] at x2
        have hki : (k : Int) < (n : Int) := by omega
        have hsz := HS.out k hlt
        have HST := Lib.hid (fun (W : World) (k1 : Kept wr W) => M14.next hlt HM.out HG.out HO.out HK.out k1 _ hsz (.agg #[.slice au nu cu, .float .f64 (xs.getD k 0)]) ⟨au, nu, cu, zu, _, rfl, ru⟩)
        clear hc0 hc1 hc2 eu ru hsz
        generalize ss.getD k ByteArray.empty = s0 at *
        generalize xs.getD k 0 = x at *
        obtain ⟨ob, hrun, hnext⟩ := HST.out wr.drew (Kept.refl wr).drew
        have HN := Lib.hid hnext
        clear hnext HST
        go_upto_region 7 with fail
        go_region
        all_goals
          go_wp2_with fail
          go_roundw
          case rel => first | exact HN.out | ((repeat apply Exists.intro); exact ⟨HN.out, rfl⟩)
          case measure => simp [intOf]; omega
      · obtain rfl : k = n := by omega
        obtain ⟨kl, hkl⟩ := key50 i (by omega)
        have HST : Hid (∀ W : World, Kept wr W → ∃ ob, (Instr.mapUpdate 41 (.map (some w.heap.size)) (.agg #[.int .u32 0, .int .u32 (i : Int)]) (.map (some (w.heap.size + 1)))).run Tryd.prog W = .ok () (setBlock W w.heap.size ob) ∧ Hid (EnumsOut w0 w (.returned (.map (some w.heap.size))) (setBlock W w.heap.size ob))) := Lib.hid (fun W hW => by
          obtain ⟨ob, h1, h2⟩ := (HO.out.kept hW).store K50 Tryd.underlying41 hkl (.map (some (w.heap.size + 1)))
          refine ⟨ob, h1, Lib.hid ⟨_, rfl, ⟨_, h2⟩, kept_setBlock (HK.out.trans hW) (Nat.le_refl _) ob, fun x v hx => ?_⟩⟩
          by_cases e : x = key i
          · rw [e] at hx
            have hx2 := (mapf.put_same (fun _ => none) (key i) (.map (some (w.heap.size + 1)))).symm.trans hx
            refine ⟨w.heap.size + 1, m, f, (Option.some.inj hx2).symm, by omega, (HM.out.kept hW).of_block ?_, HG.out⟩
            unfold setBlock
            simp only
            rw [Array.getElem?_setIfInBounds]
            simp
          · have hx2 := (mapf.put_ne (fun _ => none) (.map (some (w.heap.size + 1))) e).symm.trans hx
            cases hx2)
        clear hkl
        go_wp2_with fail
        refine (zref (i : Int) _).mono ?_
        rintro e w1 ⟨rfl, k1⟩
        obtain ⟨ob, hrun, HE⟩ := HST.out w1 k1
        clear HST
        go_wp2_with fail
        go_ret
        exact HE.out
end Go.Proofs.YtcndjkndmmcagaaDoor.mp
