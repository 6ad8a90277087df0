/-
  The walk of wrBuild over this seat's program.
  Conditions: the conditions are readable and within the law's bounds.
-/
import Derived.Test.YtimllpocefbcbaaWb
namespace Go.Proofs.Ytimllpocefbcbaa.wr
open Go.ChangeShapes Go.WideShapes Go.ChangeAt Go.RowKit
open kit

def Built (w : World) (F : Cs) (e : Ending) (w' : World) : Prop := (∃ a c, e = .returned (.slice a F.length c) ∧ ImpsC w' (.slice a F.length c) F) ∧ Kept w w'
def T9 (w : World) (F : Cs) (t4 : Value) (W : World) : Prop := ∃ k : Nat, k ≤ F.length ∧ t4 = .int .i64 (k : Int) ∧ Bq w W F k
def T9i (w3 : World) (L : List Bool) (t6 : Value) (W : World) : Prop := ∃ j : Nat, j ≤ L.length ∧ t6 = .int .i64 (j : Int) ∧ Kq w3 W L j
set_option maxRecDepth 100000 in
set_option maxHeartbeats 8000000 in
theorem build (w : World) (a : Option Addr) (c : Nat) (F : Cs) (h : CndsC w (.slice a F.length c) F) (hn : F.length ≤ 4096) (hfit : Fit F F.length) : Calls Try.prog 9 #[.slice a F.length c] w (Built w F) := by
  obtain ⟨a', c', e, hc1, hc2, hz⟩ := Sl.len h
  injection e with e1 e2 e3
  subst e1 e3
  clear e2
  have HR := Lib.hid h
  have HFT := Lib.hid hfit
  clear h hfit hz
  obtain ⟨C, l1, _, g1, m1⟩ := makeN1 (T := 33) (E := 57) (size := 3) (bytes := 72) Try.underlying33 (by kernel_rfl) (by kernel_rfl) F.length (by omega) (by omega)
  have HA0 : Hid (T9 w F (.int .i64 0) (w.alloc (.cells C.toArray 57))) := Lib.hid ⟨0, Nat.zero_le _, rfl, (Kept.refl _).alloc _, C, Blk.new _ _ _, l1, (fun i hi => absurd hi (by omega)), fun i _ h2 => g1 0 _ (by omega) (by kernel_rfl) i h2⟩
  clear g1 l1
  go_enter Try.func9, Try.ntmps9
  go_wp2_with fail
  clear m1
  generalize w.alloc (.cells C.toArray 57) = wa at *
  go_loopw [4] (fun t4 W => T9 w F t4 W) (fun t4 _ => F.length - (intOf t4).toNat)
  case atStart => exact HA0.out
  case round =>
    obtain ⟨k, hk, rfl, hT⟩ := hrel
    have HT := Lib.hid hT
    obtain ⟨wo, rfl⟩ : ∃ wo : World, wo = wr := ⟨_, rfl⟩
    clear hT HA0
    by_cases hlt : k < F.length
    · obtain ⟨b, off, ea, _, a1, c1, y0, y1, r1⟩ := HR.out.at_ hlt
      cases ea
      obtain ⟨f1, f2, f3⟩ := HFT.out k hlt
      have k0 : (k : Int) < (F.length : Int) := by omega
      obtain ⟨m, hm⟩ : ∃ m : Nat, (at_ F k).s = (m : Int) := ⟨(at_ F k).s.toNat, by omega⟩
      have HM : Hid ((at_ F k).s.toNat = m) := Lib.hid (by omega)
      have hm3 : m ≤ 65536 := by omega
      rw [hm] at y1
      clear hm f2 f3
      have R1 := Lib.hid r1
      have Y0 := Lib.hid y0
      have Y1 := Lib.hid y1
      have y0 := HT.out.kept.cell y0
      obtain ⟨C2, l2, g2, m2⟩ := made54 (at_ F k).L.length f1
      have HA2 : Hid (T9i wo (at_ F k).L (.int .i64 0) (wo.alloc (.cells C2.toArray 54))) := Lib.hid ⟨0, Nat.zero_le _, rfl, (Kept.refl wo).alloc _, C2, Blk.new _ _ _, l2, (fun i hi => absurd hi (by omega)), fun i _ hi => g2 _ _ i hi⟩
      clear g2 l2 y1 r1
      go_upto_region 7 with fail
      clear m2
      generalize wo.alloc (.cells C2.toArray 54) = w2 at *
      go_loopw [6] (fun t6 W => T9i wo (at_ F k).L t6 W) (fun t6 _ => (at_ F k).L.length - (intOf t6).toNat)
      case atStart => exact HA2.out
      case round =>
        obtain ⟨j, hj, rfl, hK⟩ := hrel
        have HK := Lib.hid hK
        obtain ⟨u3, rfl⟩ : ∃ u3 : World, u3 = wr := ⟨_, rfl⟩
        clear hK HA2 y0
        have y0 := HK.out.kept.cell (HT.out.kept.cell Y0.out)
        by_cases hlj : j < (at_ F k).L.length
        · obtain ⟨b3, off3, e3, _, x0⟩ := ((R1.out.kept HT.out.kept).kept HK.out.kept).at_ false hlj
          cases e3
          have j0 : (j : Int) < ((at_ F k).L.length : Int) := by omega
          have hcp := R1.out.2.1
          have hcp2 : c1 ≤ 9223372036854775807 := by have := R1.out.2.2.1; unfold maxLen at this; exact this
          by_cases hop : (at_ F k).L.getD j false = true
          · rw [hop] at x0
            have HOP := Lib.hid hop
            clear hop
            go_upto_region 11 with fail
            have K5 : Hid (Kept u3 ((u3.alloc (.cells #[] 54)).alloc (.cells #[.slice (some ⟨u3.heap.size, 0, none⟩) 0 0] 47))) := Lib.hid (((Kept.refl u3).alloc _).alloc _)
            have HQ : Hid (((u3.alloc (.cells #[] 54)).alloc (.cells #[.slice (some ⟨u3.heap.size, 0, none⟩) 0 0] 47)).cell? ⟨u3.heap.size + 1, 0, none⟩ = some (.slice (some ⟨u3.heap.size, 0, none⟩) 0 0)) := Lib.hid (by
              have := (Blk.new (u3.alloc (.cells #[] 54)) 47 [.slice (some ⟨u3.heap.size, 0, none⟩) 0 0]).cell 0
              rw [show (u3.alloc (.cells #[] 54)).heap.size = u3.heap.size + 1 by simp] at this
              exact this)
            have HK5 := Lib.hid (HK.out.kept2 K5.out)
            have hlo : wo.heap.size + 1 ≤ u3.heap.size + 1 := by have := HK.out.kept.size; omega
            have HN := Lib.hid (HK5.out.put hlj HOP.out hlo HQ.out (Nat.zero_le _))
            obtain ⟨vv, q1, q2⟩ := HK5.out.has hlj
            clear x0 y0 hlo
            generalize (u3.alloc (.cells #[] 54)).alloc (.cells #[.slice (some ⟨u3.heap.size, 0, none⟩) 0 0] 47) = u5 at *
            go_wp2_with fail
            go_roundw
            case rel => exact ⟨j + 1, by omega, by go_num, HN.out⟩
            case measure => simp [intOf]; omega
          · have hop : (at_ F k).L.getD j false = false := by simpa using hop
            have HN := Lib.hid (HK.out.skip hlj hop)
            rw [hop] at x0
            clear hop
            go_wp2_with fail
            go_roundw
            case rel => exact ⟨j + 1, by omega, by go_num, HN.out⟩
            case measure => simp [intOf]; omega
        · obtain rfl : j = (at_ F k).L.length := by omega
          have HT3 := Lib.hid (HT.out.kept2 HK.out.kept)
          have HS1 : Hid (LaySl (w.heap.size + 1) u3 (.slice (some ⟨wo.heap.size, 0, none⟩) (at_ F k).L.length (at_ F k).L.length) (at_ F k)) := Lib.hid (HK.out.fin f1 (by have := HT.out.lt; omega))
          have y1 := HT3.out.kept.cell Y1.out
          obtain ⟨vv, q1, q2⟩ := HT3.out.has hlt (o := 1) (by omega)
          clear y0
          go_upto_region 13 with fail
          clear q1 q2
          have HT4 := Lib.hid (HT3.out.putL (.slice (some ⟨wo.heap.size, 0, none⟩) (at_ F k).L.length (at_ F k).L.length))
          have HC4 := Lib.hid (HT3.out.cellL hlt (.slice (some ⟨wo.heap.size, 0, none⟩) (at_ F k).L.length (at_ F k).L.length))
          have SS := Lib.hid (Same.set (lo := w.heap.size + 1) u3 (Nat.lt_succ_self w.heap.size) (k * 3 + 1) (.slice (some ⟨wo.heap.size, 0, none⟩) (at_ F k).L.length (at_ F k).L.length))
          have HS4 := Lib.hid (Sl.mono HS1.out SS.out.1 fun _ _ _ _ q => q.same SS.out)
          generalize u3.setCell ⟨w.heap.size, k * 3 + 1, none⟩ (.slice (some ⟨wo.heap.size, 0, none⟩) (at_ F k).L.length (at_ F k).L.length) = u4 at *
          clear y1 SS HS1 HK
          have y1 := HT4.out.kept.cell Y1.out
          obtain ⟨C3, l3, g3, m3⟩ := made54 m hm3
          have K6 := Lib.hid ((Kept.refl u4).alloc (.cells C3.toArray 54))
          have HB6 : Hid (Blk (u4.alloc (.cells C3.toArray 54)) u4.heap.size 54 C3) := Lib.hid (Blk.new u4 54 C3)
          have HT6 := Lib.hid (HT4.out.kept2 K6.out)
          have HS6 := Lib.hid (Sl.mono HS4.out K6.out.size fun _ _ _ _ q => q.same (Same.of_kept K6.out))
          have hlo6 : w.heap.size + 1 ≤ u4.heap.size := HT4.out.lt
          have HP6 : Hid (SupSl (w.heap.size + 1) (u4.alloc (.cells C3.toArray 54)) (.slice (some ⟨u4.heap.size, 0, none⟩) m m) (at_ F k)) := Lib.hid (by
            show Sl _ _ (at_ F k).s.toNat 7 _
            rw [HM.out]
            refine ⟨_, _, rfl, Nat.le_refl _, by unfold maxLen; omega, (fun e => by cases e), fun _ => ⟨_, 0, rfl, HB6.out.lt, fun i hi => ?_⟩⟩
            obtain ⟨h0, h1, h2, h3, h4, h5, h6⟩ := g3 w 0 i hi
            rw [Nat.zero_add]
            refine ⟨hlo6, ?_, by rw [HB6.out.cell]; exact h1, by rw [HB6.out.cell]; exact h2, by rw [HB6.out.cell]; exact h3, by rw [HB6.out.cell]; exact h4, by rw [HB6.out.cell]; exact h5, by rw [HB6.out.cell]; exact h6⟩
            rcases h0 with ⟨_, g2⟩ | ⟨g1, _⟩
            · rw [HB6.out.cell]; exact g2
            · cases g1)
          have HN := Lib.hid (HT6.out.close hlt (K6.out.cell HC4.out) HS6.out HP6.out)
          obtain ⟨vv2, q3, q4⟩ := HT6.out.has hlt (o := 2) (by omega)
          have hmm : (m : Int) ≤ 9223372036854775807 := by omega
          clear g3 l3 hlo6
          go_wp2_with fail
          exact ⟨⟨k + 1, by omega, by go_num, HN.out⟩, by simp [intOf]; omega⟩
    · obtain rfl : k = F.length := by omega
      have HX := Lib.hid (HT.out.fin hn)
      go_wp2_with fail
      go_ret
      exact ⟨⟨_, _, rfl, HX.out⟩, HT.out.kept⟩
end Go.Proofs.Ytimllpocefbcbaa.wr
