/-
  findImportedCSSFilesInJSOrder over this seat's program.
  Conditions: the files lie in memory as Mem says.
-/
import Derived.Test.YtkogmgonceneeaaCv2
import Derived.Laws.EntriesVeiled
namespace Go.Proofs.Ytkogmgonceneeaa.css
open Go.ChangeShapes Go.WideShapes Go.ChangeAt Go.RowKit
open kit dfs

def FOut (w : World) (F : Ct) (e : Nat) (r : Ending) (w' : World) : Prop := ∃ s t, r = .returned t ∧ Run (T F) (C F) [e] ⟨fun _ => false, []⟩ s ∧ Wk w' w.heap.size 23 1 (fun x : Nat => [.int .u32 (x : Int)]) t s.o ∧ Kept w w'
theorem vis_none : vis (fun _ => false) = fun _ => none := by
  funext x
  unfold vis
  split
  · rw [if_neg (fun h => by cases h.2)]
  · rfl
/-- the five blocks that the call lays ahead of the visit -/
theorem laid (w : World) (cb : Nat) : ∃ W, W = ((((w.alloc (.cells #[.pointer (some ⟨cb, 0, none⟩)] 29)).alloc (.cells #[.slice none 0 0] 27)).alloc (.map #[] 0)).alloc (.cells #[.map (some (w.heap.size + 1 + 1))] 205)).alloc (.cells #[.nilFunc] 206) ∧ Kept w W ∧
    Blk W w.heap.size 29 [.pointer (some ⟨cb, 0, none⟩)] ∧ Blk W (w.heap.size + 1) 27 [.slice none 0 0] ∧ mapf.MapF Try.prog 23 W (w.heap.size + 1 + 1) 0 (fun _ => none) ∧ Blk W (w.heap.size + 1 + 1 + 1) 205 [.map (some (w.heap.size + 1 + 1))] ∧ Blk W (w.heap.size + 1 + 1 + 1 + 1) 206 [.nilFunc] := by
  have a1 := Blk.new w 29 [.pointer (some ⟨cb, 0, none⟩)]
  have k1 := (Kept.refl w).alloc (.cells #[.pointer (some ⟨cb, 0, none⟩)] 29)
  have e1 : (w.alloc (.cells #[.pointer (some ⟨cb, 0, none⟩)] 29)).heap.size = w.heap.size + 1 := by simp
  generalize hW1 : w.alloc (.cells #[.pointer (some ⟨cb, 0, none⟩)] 29) = W1 at *
  have a1 : Blk W1 w.heap.size 29 [.pointer (some ⟨cb, 0, none⟩)] := by rw [← hW1]; exact Blk.new w 29 _
  have a2 : Blk (W1.alloc (.cells #[.slice none 0 0] 27)) (w.heap.size + 1) 27 [.slice none 0 0] := by rw [← e1]; exact Blk.new W1 27 _
  have k2 := (Kept.refl W1).alloc (.cells #[.slice none 0 0] 27)
  have e2 : (W1.alloc (.cells #[.slice none 0 0] 27)).heap.size = w.heap.size + 1 + 1 := by simp [e1]
  generalize W1.alloc (.cells #[.slice none 0 0] 27) = W2 at *
  have a3 : mapf.MapF Try.prog 23 (W2.alloc (.map #[] 0)) (w.heap.size + 1 + 1) 0 (fun _ => none) := by rw [← e2]; exact mapf.MapF.made Try.prog 23 W2
  have k3 := (Kept.refl W2).alloc (.map #[] 0)
  have e3 : (W2.alloc (.map #[] 0)).heap.size = w.heap.size + 1 + 1 + 1 := by simp [e2]
  generalize W2.alloc (.map #[] 0) = W3 at *
  have a4 : Blk (W3.alloc (.cells #[.map (some (w.heap.size + 1 + 1))] 205)) (w.heap.size + 1 + 1 + 1) 205 [.map (some (w.heap.size + 1 + 1))] := by rw [← e3]; exact Blk.new W3 205 _
  have k4 := (Kept.refl W3).alloc (.cells #[.map (some (w.heap.size + 1 + 1))] 205)
  have e4 : (W3.alloc (.cells #[.map (some (w.heap.size + 1 + 1))] 205)).heap.size = w.heap.size + 1 + 1 + 1 + 1 := by simp [e3]
  generalize W3.alloc (.cells #[.map (some (w.heap.size + 1 + 1))] 205) = W4 at *
  have a5 : Blk (W4.alloc (.cells #[.nilFunc] 206)) (w.heap.size + 1 + 1 + 1 + 1) 206 [.nilFunc] := by rw [← e4]; exact Blk.new W4 206 _
  have k5 := (Kept.refl W4).alloc (.cells #[.nilFunc] 206)
  exact ⟨_, rfl, (((k1.trans k2).trans k3).trans k4).trans k5, (((a1.kept k2).kept k3).kept k4).kept k5, ((a2.kept k3).kept k4).kept k5, (a3.kept k4).kept k5, a4.kept k5, a5⟩
set_option maxRecDepth 100000 in
set_option maxHeartbeats 8000000 in
theorem find (w : World) (cb LB n e : Nat) (G : Nat → Rp) (F : Ct) (hm : Mem w cb LB n G F) (hfit : Fits n F) (h32 : ∀ v, v < n → cssOf F v ≤ 4294967295) (he : e < n) :
    Calls Try.prog 15 #[.pointer (some ⟨cb, 0, none⟩), .int .u32 (e : Int)] w (FOut w F e) := by
  have HM := Lib.hid hm
  have HFit := Lib.hid hfit
  have H32 := Lib.hid h32
  have hmf : ∀ (fn : Fn) (first cap : Array Value) (w : World), (Instr.makeFunc fn first cap).run Try.prog w = .ok (.func fn first cap) w := fun _ _ _ _ => rfl
  have hmm : ∀ W : World, (Instr.makeMap 205 none).run Try.prog W = .ok (.map (some W.heap.size)) (W.alloc (.map #[] 0)) := fun _ => rfl
  obtain ⟨W5, hW5, hk, b1, b2, m1, b3, b4⟩ := laid w cb
  clear hm hfit h32
  go_enter Try.func15, Try.ntmps15
  go_upto_region 3 with fail
  rw [← hW5]
  have y1 : W5.cell? ⟨w.heap.size + 1 + 1 + 1 + 1, 0, none⟩ = some .nilFunc := b4.cell 0
  have y2 := b4.free 0
  have HV : Hid (Vs w (W5.setCell ⟨w.heap.size + 1 + 1 + 1 + 1, 0, none⟩ (fnV (w.heap.size + 1 + 1 + 1) w.heap.size (w.heap.size + 1 + 1 + 1 + 1) (w.heap.size + 1))) (w.heap.size + 1 + 1 + 1) w.heap.size (w.heap.size + 1 + 1 + 1 + 1) (w.heap.size + 1) (w.heap.size + 1 + 1) cb (fun _ => false) (.slice none 0 0) []) := Lib.hid
    ⟨hk.setCell (p := ⟨w.heap.size + 1 + 1 + 1 + 1, 0, none⟩) (by show w.heap.size ≤ w.heap.size + 1 + 1 + 1 + 1; omega) _, b3.far (p := ⟨w.heap.size + 1 + 1 + 1 + 1, 0, none⟩) (by show w.heap.size + 1 + 1 + 1 ≠ w.heap.size + 1 + 1 + 1 + 1; omega) _, b1.far (p := ⟨w.heap.size + 1 + 1 + 1 + 1, 0, none⟩) (by show w.heap.size ≠ w.heap.size + 1 + 1 + 1 + 1; omega) _,
      by have := b4.set 0 (fnV (w.heap.size + 1 + 1 + 1) w.heap.size (w.heap.size + 1 + 1 + 1 + 1) (w.heap.size + 1)); simpa using this, b2.far (p := ⟨w.heap.size + 1 + 1 + 1 + 1, 0, none⟩) (by show w.heap.size + 1 ≠ w.heap.size + 1 + 1 + 1 + 1; omega) _, ⟨0, by rw [vis_none]; exact m1.of_block (Below.heap_setCell _ _ _ _ (by show w.heap.size + 1 + 1 ≠ w.heap.size + 1 + 1 + 1 + 1; omega))⟩, Wk.nil _, by omega, by omega⟩
  clear hW5 hk b1 b2 m1 b3 b4
  go_upto_region 4 with fail
  unfold fnV at HV
  generalize W5.setCell ⟨w.heap.size + 1 + 1 + 1 + 1, 0, none⟩ (.func (.func 16) #[] #[.pointer (some ⟨w.heap.size + 1 + 1 + 1, 0, none⟩), .pointer (some ⟨w.heap.size, 0, none⟩), .pointer (some ⟨w.heap.size + 1 + 1 + 1 + 1, 0, none⟩), .pointer (some ⟨w.heap.size + 1, 0, none⟩)]) = W6 at *
  clear y1 y2
  have HC := Lib.hid (visitAll w _ _ _ _ _ cb LB n G F HFit.out H32.out HM.out _ W6 ⟨fun _ => false, []⟩ _ e (Nat.le_refl _) he (Nat.zero_le _) HV.out)
  have f5 : W6.cell? ⟨w.heap.size + 1 + 1 + 1 + 1, 0, none⟩ = some (fnV (w.heap.size + 1 + 1 + 1) w.heap.size (w.heap.size + 1 + 1 + 1 + 1) (w.heap.size + 1)) := HV.out.vfun.cell 0
  unfold fnV at f5
  clear HV
  go_wp2_with fail
  refine HC.out.mono ?_
  rintro e2 W7 ⟨rfl, s, t, hR, hV⟩
  have HR := Lib.hid hR
  have HV := Lib.hid hV
  have z1 : W7.cell? ⟨w.heap.size + 1, 0, none⟩ = some t := HV.out.vord.cell 0
  obtain ⟨⟨a, c, et⟩, _⟩ := HV.out.ord
  clear hR hV f5 HC
  subst et
  go_wp2_with fail
  exact bodyPost_ret (v := .slice a s.o.length c) (by simp [results, Try.results15, Act.put, asAddr, z1, go_sem]) rfl ⟨s, _, rfl, HR.out, HV.out.ord, HV.out.kept⟩
/-- ZZfindImportedCSSFilesInJSOrder -/
theorem zzfind (w : World) (cb LB n e : Nat) (G : Nat → Rp) (F : Ct) (hm : Mem w cb LB n G F) (hfit : Fits n F) (h32 : ∀ v, v < n → cssOf F v ≤ 4294967295) (he : e < n) :
    Calls Try.prog 11 #[.pointer (some ⟨cb, 0, none⟩), .int .u32 (e : Int)] w (FOut w F e) := by
  have HC := Lib.hid (find w cb LB n e G F hm hfit h32 he)
  clear hm hfit h32
  go_enter Try.func11, Try.ntmps11
  go_wp2_with fail
  refine HC.out.mono ?_
  rintro e2 W7 ⟨s, t, rfl, r⟩
  have HR := Lib.hid r
  obtain ⟨_, ⟨⟨a, c, et⟩, _⟩, _⟩ := r
  subst et
  clear HC
  go_wp2_with fail
  go_ret
  exact ⟨s, _, rfl, HR.out⟩
end Go.Proofs.Ytkogmgonceneeaa.css
