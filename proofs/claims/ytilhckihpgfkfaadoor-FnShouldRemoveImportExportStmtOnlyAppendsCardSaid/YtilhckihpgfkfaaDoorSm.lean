/-
  The linker's context that the law makes, over this seat's program.
  Conditions: the files are as the law lays them.
-/
import Derived.Test.YtilhckihpgfkfaaDoorSc
import Derived.Laws.Tables
namespace Go.Proofs.YtilhckihpgfkfaaDoor.sr
open Go.ChangeShapes Go.WideShapes Go.ChangeAt Go.RowKit
open kit

def MadeX (w : World) (fmt : Int) (d0 d1 : Fd) (tg : Int) (e : Ending) (w' : World) : Prop := ∃ cb ob LB g, e = .returned (.pointer (some ⟨cb, 0, none⟩)) ∧ Cx w w' cb ob LB g fmt d0 d1 tg 2
def TX (w : World) (cb ob LB g : Nat) (fmt : Int) (d0 d1 : Fd) (tg : Int) (t34 : Value) (W : World) : Prop := ∃ k : Nat, k ≤ 2 ∧ t34 = .int .i64 (k : Int) ∧ Cx w W cb ob LB g fmt d0 d1 tg k
def TRc (u1 u2 : World) (RB : Nat) (tg : Int) (t48 : Value) (W : World) : Prop := (t48 = .int .i64 0 ∧ W = u2) ∨ (t48 = .int .i64 1 ∧ Kept u1 W ∧ ∃ rcs, Blk W RB 145 rcs ∧ rcs[10]? = some (.int .u32 (if tg < 0 then 0 else 4294967294)) ∧ rcs[7]? = some (.int .i32 0))
set_option maxRecDepth 100000 in
set_option maxHeartbeats 8000000 in
theorem newCtx (w : World) (v : Value) (fmt : Int) (d0 d1 : Fd) (tg : Int) (h : Files w v d0 d1 tg) (htg : tg = -1 ∨ tg = 1) (hi0 : w.cell? ⟨0, 0, none⟩ = some (.int .u32 4294967295)) (hi1 : w.cell? ⟨0, 1, none⟩ = some (.int .u32 4294967295)) : Calls Tryd.prog 4 #[v, .int .u8 fmt] w (MadeX w fmt d0 d1 tg) := by
  obtain ⟨fb, tb, rfl, hfb, htb⟩ := h
  have HFB := Lib.hid hfb
  have HTB := Lib.hid htb
  have HI0 := Lib.hid hi0
  have HI1 := Lib.hid hi1
  clear hfb htb hi0 hi1
  go_enter Tryd.func4, Tryd.ntmps4
  go_upto_region 1 with fail
  go_wp2_with fail
  rename_i K1 h1
  refine wp_build 96 _ rfl (by kernel_rfl) ?_
  generalize hCS : (Program.built _ _ _).getD #[] = CS
  have e98 : CS[98]? = some (.int .u8 fmt) := by rw [← hCS]; kernel_rfl
  have hCsz : CS.size = 102 := by rw [← hCS]; kernel_rfl
  clear hCS
  refine h1 _ _ ?_
  clear h1
  go_upto_region 2 with fail
  obtain ⟨w1, hw1⟩ : ∃ w1, w1 = (w.alloc (.cells CS 96)).alloc (.cells #[.pointer (some ⟨w.heap.size, 0, none⟩), .pointer none, .nilFunc, .nilFunc, .nilFunc, .nilFunc, .int .i8 0, .map none, .nilIface, .pointer none, .slice none 0 0, .slice none 0 0, .slice none 0 0, .map none, .map none, .slice none 0 0, .slice none 0 0, .slice none 0 0, .slice none 0 0, .nilFunc, .string ⟨#[]⟩, .slice none 0 0, .map none, .int .u32 0, .int .u32 0, .int .u32 0, .int .u32 0, .int .u32 0, .int .u32 0] 127) := ⟨_, rfl⟩
  have K1 : Hid (Kept w w1) := Lib.hid (by rw [hw1]; exact ((Kept.refl w).alloc _).alloc _)
  have BO : Hid (Blk w1 w.heap.size 96 CS.toList) := Lib.hid (by rw [hw1]; exact (Blk.new' w 96 CS.toList _ rfl).alloc _)
  obtain ⟨ccs, hccs⟩ : ∃ ccs : List Value, ccs = [.pointer (some ⟨w.heap.size, 0, none⟩), .pointer none, .nilFunc, .nilFunc, .nilFunc, .nilFunc, .int .i8 0, .map none, .nilIface, .pointer none, .slice none 0 0, .slice none 0 0, .slice none 0 0, .map none, .map none, .slice none 0 0, .slice none 0 0, .slice none 0 0, .slice none 0 0, .nilFunc, .string ⟨#[]⟩, .slice none 0 0, .map none, .int .u32 0, .int .u32 0, .int .u32 0, .int .u32 0, .int .u32 0, .int .u32 0] := ⟨_, rfl⟩
  have BC : Hid (Blk w1 (w.heap.size + 1) 127 ccs) := Lib.hid (by rw [hw1, hccs]; exact Blk.new' _ 127 _ _ (by simp))
  have g0 : ccs[0]? = some (.pointer (some ⟨w.heap.size, 0, none⟩)) := by rw [hccs]; rfl
  have g10 : ccs[10]? = some (.slice none 0 0) := by rw [hccs]; rfl
  have g12 : ccs[12]? = some (.slice none 0 0) := by rw [hccs]; rfl
  have gl : ccs.length = 29 := by rw [hccs]; rfl
  have HG := Lib.hid (And.intro g0 (And.intro g10 (And.intro g12 gl)))
  rw [← hw1]
  clear hw1 hccs hCsz
  have HE98 := Lib.hid e98
  have y10 : w1.cell? ⟨w.heap.size + 1, 10, none⟩ = some (.slice none 0 0) := by rw [BC.out.cell]; exact g10
  have y10f := BC.out.free 10
  clear g0 g10 g12 gl e98
  obtain ⟨C, l1, _, _, m1⟩ := makeN1 (T := 109) (E := 167) (size := 24) (bytes := 280) Tryd.underlying109 (by kernel_rfl) (by kernel_rfl) 2 (by omega) (by omega)
  have m2 : ∀ w : World, (Instr.makeSlice 109 (.int .i64 2) (.int .i64 2)).run Tryd.prog w = .ok (.slice (some ⟨w.heap.size, 0, none⟩) 2 2) (w.alloc (.cells C.toArray 167)) := m1
  clear m1
  have hsz1 : w.heap.size + 1 < w1.heap.size := BC.out.lt
  go_upto_region 3 with fail
  clear m2 y10 y10f
  obtain ⟨w2, hw2⟩ : ∃ w2, w2 = (w1.setCell ⟨w.heap.size + 1, 10, none⟩ (.slice (some ⟨w1.heap.size, 0, none⟩) 2 2)).alloc (.cells C.toArray 167) := ⟨_, rfl⟩
  have K2 : Hid (Kept w w2) := Lib.hid (by rw [hw2]; exact (K1.out.setCell (p := ⟨w.heap.size + 1, 10, none⟩) (by show w.heap.size ≤ w.heap.size + 1; omega) _).alloc _)
  have BO2 : Hid (Blk w2 w.heap.size 96 CS.toList) := Lib.hid (by rw [hw2]; exact (BO.out.far (p := ⟨w.heap.size + 1, 10, none⟩) (by show w.heap.size ≠ w.heap.size + 1; omega) _).alloc _)
  have BC2 : Hid (Blk w2 (w.heap.size + 1) 127 (ccs.set 10 (.slice (some ⟨w1.heap.size, 0, none⟩) 2 2))) := Lib.hid (by rw [hw2]; exact (BC.out.set 10 _).alloc _)
  have BL2 : Hid (Blk w2 w1.heap.size 167 C) := Lib.hid (by rw [hw2]; exact Blk.new' _ 167 C _ (by simp [World.setCell]))
  rw [← hw2]
  have HLB := Lib.hid (Nat.le_of_lt (Nat.lt_of_succ_lt hsz1))
  clear hw2 K1 BO BC hsz1
  generalize w1.heap.size = LB at *
  go_wp2_with fail
  refine (symMap w2).mono ?_
  rintro e w3 ⟨⟨g, gcs, rfl, hbg, hgl, hg2⟩, k3⟩
  have BG := Lib.hid hbg
  have y12 : w3.cell? ⟨w.heap.size + 1, 12, none⟩ = some (.slice none 0 0) := by
    rw [(BC2.out.kept k3).cell, List.getElem?_set_ne (by omega)]; exact HG.out.2.2.1
  have y12f := (BC2.out.kept k3).free 12
  have HA0 : Hid (Cx w (w3.setCell ⟨w.heap.size + 1, 12, none⟩ (.slice (some ⟨g, 0, none⟩) 2 2)) (w.heap.size + 1) w.heap.size LB g fmt d0 d1 tg 0) := Lib.hid (by
    have b1 := (BC2.out.kept k3).set 12 (.slice (some ⟨g, 0, none⟩) 2 2)
    have n1 : w.heap.size ≠ w.heap.size + 1 := by omega
    have n2 : LB ≠ w.heap.size + 1 := BL2.out.apart BC2.out (by decide)
    have n3 : g ≠ w.heap.size + 1 := by have := BC2.out.lt; omega
    refine ⟨(K2.out.trans k3).setCell (p := ⟨w.heap.size + 1, 12, none⟩) (by show w.heap.size ≤ w.heap.size + 1; omega) _, ⟨_, _, b1, ?_, ?_, ?_, (BO2.out.kept k3).far (p := ⟨w.heap.size + 1, 12, none⟩) n1 _, ?_⟩, ⟨HLB.out, by have := K2.out.size; omega⟩, C, gcs, (BL2.out.kept k3).far (p := ⟨w.heap.size + 1, 12, none⟩) n2 _, l1, hbg.far (p := ⟨w.heap.size + 1, 12, none⟩) n3 _, hgl, fun q => absurd q (by omega), fun q => absurd q (by omega)⟩
    · rw [List.getElem?_set_ne (by omega), List.getElem?_set_ne (by omega)]; exact HG.out.1
    · rw [List.getElem?_set_ne (by omega), List.getElem?_set_self (by rw [HG.out.2.2.2]; omega)]
    · rw [List.getElem?_set_self (by rw [List.length_set, HG.out.2.2.2]; omega)]
    · have := HE98.out; simpa using this)
  clear BO2 BC2 BL2 HG HE98 hbg hgl hg2 k3 K2 HLB BG
  go_upto_region 4 with fail
  clear y12 y12f
  generalize w3.setCell ⟨w.heap.size + 1, 12, none⟩ (.slice (some ⟨g, 0, none⟩) 2 2) = w4 at *
  go_upto_region 5 with fail
  go_loopw [34] (fun t34 W => TX w (w.heap.size + 1) w.heap.size LB g fmt d0 d1 tg t34 W) (fun t34 _ => 2 - (intOf t34).toNat)
  case atStart => exact ⟨0, by omega, rfl, HA0.out⟩
  case round =>
    obtain ⟨k, hk, rfl, hx⟩ := hrel
    have HX := Lib.hid hx
    obtain ⟨wo, rfl⟩ : ∃ wo : World, wo = wr := ⟨_, rfl⟩
    clear hx HA0
    have hk3 : k = 0 ∨ k = 1 ∨ k = 2 := by omega
    rcases hk3 with rfl | rfl | rfl
    · rw [show ((0 : Nat) : Int) = 0 from rfl]
      have z0 : wo.cell? ⟨fb, 0, none⟩ = some (.int .u8 d0.wrap) := (HFB.out.kept HX.out.kept).cell 0
      have z1 : wo.cell? ⟨fb, 1, none⟩ = some (.bool d0.async) := (HFB.out.kept HX.out.kept).cell 1
      have z2 : wo.cell? ⟨fb, 2, none⟩ = some (.bool d0.live) := (HFB.out.kept HX.out.kept).cell 2
      have z3 : wo.cell? ⟨fb, 3, none⟩ = some (.bool d0.cjs) := (HFB.out.kept HX.out.kept).cell 3
      have z4 : wo.cell? ⟨fb, 4, none⟩ = some (.int .u32 d0.ws) := (HFB.out.kept HX.out.kept).cell 4
      have z5 : wo.cell? ⟨fb, 5, none⟩ = some (.int .u32 d0.wi) := (HFB.out.kept HX.out.kept).cell 5
      have z6 : wo.cell? ⟨fb, 6, none⟩ = some (.int .u32 0) := (HFB.out.kept HX.out.kept).cell 6
      have z7 : wo.cell? ⟨fb, 7, none⟩ = some (.int .u32 d0.ei) := (HFB.out.kept HX.out.kept).cell 7
      have z8 : wo.cell? ⟨fb, 8, none⟩ = some (.slice (some ⟨tb, 0, none⟩) 1 1) := (HFB.out.kept HX.out.kept).cell 8
      go_upto_region 8 with fail
      have KA := Lib.hid ((Kept.refl wo).alloc (.cells #[.int .u8 d0.wrap, .bool d0.async, .bool d0.live, .bool d0.cjs, .int .u32 d0.ws, .int .u32 d0.wi, .int .u32 0, .int .u32 d0.ei, .slice (some ⟨tb, 0, none⟩) 1 1] 131))
      have HR1 : Hid (Blk (wo.alloc (.cells #[.int .u8 d0.wrap, .bool d0.async, .bool d0.live, .bool d0.cjs, .int .u32 d0.ws, .int .u32 d0.wi, .int .u32 0, .int .u32 d0.ei, .slice (some ⟨tb, 0, none⟩) 1 1] 131)) wo.heap.size 131 [.int .u8 d0.wrap, .bool d0.async, .bool d0.live, .bool d0.cjs, .int .u32 d0.ws, .int .u32 d0.wi, .int .u32 0, .int .u32 d0.ei, .slice (some ⟨tb, 0, none⟩) 1 1]) := Lib.hid (Blk.new wo 131 _)
      have HX1 := Lib.hid (HX.out.kept2 KA.out)
      generalize wo.alloc (.cells #[.int .u8 d0.wrap, .bool d0.async, .bool d0.live, .bool d0.cjs, .int .u32 d0.ws, .int .u32 d0.wi, .int .u32 0, .int .u32 d0.ei, .slice (some ⟨tb, 0, none⟩) 1 1] 131) = u1 at *
      generalize wo.heap.size = r at *
      clear z0 z1 z2 z3 z4 z5 z6 z7 z8 HX KA
      have r8 : u1.cell? ⟨r, 8, none⟩ = some (.slice (some ⟨tb, 0, none⟩) 1 1) := HR1.out.cell 8
      obtain ⟨C2, l2, _, g2, m2⟩ := makeN1 (T := 132) (E := 145) (size := 15) (bytes := 112) Tryd.underlying132 (by kernel_rfl) (by kernel_rfl) 1 (by omega) (by omega)
      have m3 : ∀ w : World, (Instr.makeSlice 132 (.int .i64 1) (.int .i64 1)).run Tryd.prog w = .ok (.slice (some ⟨w.heap.size, 0, none⟩) 1 1) (w.alloc (.cells C2.toArray 145)) := m2
      clear m2
      go_upto_region 9 with fail
      clear m3
      have KW1 := Lib.hid HX1.out.kept
      have K2 := Lib.hid ((Kept.refl u1).alloc (.cells C2.toArray 145))
      have HRB : Hid (Blk (u1.alloc (.cells C2.toArray 145)) u1.heap.size 145 C2) := Lib.hid (Blk.new u1 145 C2)
      generalize u1.alloc (.cells C2.toArray 145) = u2 at *
      generalize hrb : u1.heap.size = RB at *
      have HRE := Lib.hid hrb
      clear hrb
      have r8 := K2.out.cell r8
      go_upto_region 10 with fail
      have f10 : C2[10]? = some (.int .u32 0) := by have := g2 10 (.int .u32 0) (by omega) (by kernel_rfl) 0 (by omega); simpa using this
      have f7 : C2[7]? = some (.int .i32 0) := by have := g2 7 (.int .i32 0) (by omega) (by kernel_rfl) 0 (by omega); simpa using this
      have HF10 := Lib.hid (And.intro f10 f7)
      clear f10 f7 g2
      have hl2 : C2.length = 15 := l2
      go_loopw [48] (fun t48 W => TRc u1 u2 RB tg t48 W) (fun t48 _ => 1 - (intOf t48).toNat)
      case atStart => exact .inl ⟨rfl, rfl⟩
      case round =>
        rcases hrel with ⟨rfl, rfl⟩ | ⟨rfl, k3, rcs, hrb, f10, f7⟩
        · obtain ⟨u2, rfl⟩ : ∃ u2 : World, u2 = wr := ⟨_, rfl⟩
          have t0 : u2.cell? ⟨tb, 0, none⟩ = some (.int .i64 tg) := ((HTB.out.kept KW1.out).kept K2.out).cell 0
          rcases htg with rfl | rfl
          · go_wp2_with fail
            go_roundw
            case rel => exact .inr ⟨rfl, K2.out, C2, HRB.out, HF10.out.1, HF10.out.2⟩
            case measure => simp [intOf]
          · go_wp2_with fail
            refine (index u2 1 (by omega) (by omega)).mono ?_
            rintro e u3 ⟨rfl, k3⟩
            have HRB3 := Lib.hid (HRB.out.kept k3)
            have K3 := Lib.hid (K2.out.trans k3)
            clear k3 t0
            have y0 : u3.cell? ⟨RB, 10, none⟩ = some (.int .u32 0) := by rw [HRB3.out.cell]; exact HF10.out.1
            have y0f := HRB3.out.free 10
            have HN : Hid (TRc u1 u2 RB 1 (.int .i64 1) (u3.setCell ⟨RB, 10, none⟩ (.int .u32 4294967294))) := Lib.hid (.inr ⟨rfl, K3.out.setCell (p := ⟨RB, 10, none⟩) (by rw [HRE.out]; exact Nat.le_refl _) _, _, HRB3.out.set 10 _, by rw [List.getElem?_set_self (by omega)]; rfl, by rw [List.getElem?_set_ne (by omega)]; exact HF10.out.2⟩)
            go_wp2_with fail
            go_roundw
            case rel => first | exact HN.out | ((repeat apply Exists.intro); exact ⟨HN.out, rfl⟩)
            case measure => simp [intOf]
        · obtain ⟨u3, rfl⟩ : ∃ u3 : World, u3 = wr := ⟨_, rfl⟩
          have K3 := Lib.hid k3
          have HR3 := Lib.hid hrb
          have HF3 := Lib.hid (And.intro f10 f7)
          clear k3 hrb f10 f7 HRB HF10 K2 r8
          have HR3b := Lib.hid (HR1.out.kept K3.out)
          have HX3 := Lib.hid (HX1.out.kept2 K3.out)
          have r3 : u3.cell? ⟨r, 3, none⟩ = some (.bool d0.cjs) := HR3b.out.cell 3
          go_upto_if 70 with (fail)
          go_cut [10] (fun t W => Hid (t = .int .u8 (kdv d0.cjs)) ∧ W = u3)
          case first =>
            generalize d0.cjs = cj at *
            cases cj
            all_goals
              go_wp2_with fail
              go_meet
              exact ⟨Lib.hid rfl, rfl⟩
          case rest =>
            obtain ⟨ht10, rfl⟩ := hcut
            obtain rfl := ht10.out
            obtain ⟨u3, rfl⟩ : ∃ u3 : World, u3 = wc := ⟨_, rfl⟩
            clear ht10 r3
            obtain ⟨ccs, ocs, b1, e0, e10, e12, b2, e98⟩ := HX3.out.c
            obtain ⟨lcs, gcs, b3, ll, b4, gl, hf0, hf1⟩ := HX3.out.f
            have c10 : u3.cell? ⟨w.heap.size + 1, 10, none⟩ = some (.slice (some ⟨LB, 0, none⟩) 2 2) := by rw [b1.cell]; exact e10
            have r2 : u3.cell? ⟨r, 2, none⟩ = some (.bool d0.live) := HR3b.out.cell 2
            obtain ⟨v23, y23, y23f⟩ := b3.has (i := 0+23) (by omega)
            have HB1 := Lib.hid b1
            have HB2 := Lib.hid b2
            have HB3 := Lib.hid b3
            have HB4 := Lib.hid b4
            have HE := Lib.hid (And.intro e0 (And.intro e10 (And.intro e12 e98)))
            have HF := Lib.hid (And.intro hf0 hf1)
            have hLs := b3.lt
            clear b1 b2 b3 b4 e0 e10 e12 e98 hf0 hf1
            go_upto_region 18 with fail
            go_still_tail 10, (by kernel_rfl)
            change wpList _ _ _ _ _ u3.drew
            have KD := Lib.hid (K3.out.drew)
            have HR4 := Lib.hid (HR3b.out.drew)
            have HR4b := Lib.hid (HR3.out.drew)
            have HB1 := Lib.hid (HB1.out.drew)
            have HB2 := Lib.hid (HB2.out.drew)
            have HB3 := Lib.hid (HB3.out.drew)
            have HB4 := Lib.hid (HB4.out.drew)
            have y23 : u3.drew.cell? ⟨LB, 0+23, none⟩ = some v23 := y23
            have y23f : u3.drew.frozen? ⟨LB, 0+23, none⟩ = false := y23f
            have HX4 := Lib.hid (HX3.out.kept2 (Kept.refl _).drew)
            generalize u3.drew = u4 at *
            clear c10 r2
            go_upto_region 19 with fail
            clear y23 y23f HX4
            have KW5 : Hid (Kept w (u4.setCell ⟨LB, 0+23, none⟩ (.bool d0.live))) := Lib.hid ((KW1.out.trans KD.out).setCell (p := ⟨LB, 0+23, none⟩) HX3.out.lo.1 _)
            have nr := HR4.out.apart HB3.out (by decide)
            have nc := HB1.out.apart HB3.out (by decide)
            have no := HB2.out.apart HB3.out (by decide)
            have ng := HB4.out.apart HB3.out (by decide)
            have HR5 := Lib.hid (HR4.out.far (p := ⟨LB, 0+23, none⟩) nr (.bool d0.live))
            have HC5 := Lib.hid (HB1.out.far (p := ⟨LB, 0+23, none⟩) nc (.bool d0.live))
            have HO5 := Lib.hid (HB2.out.far (p := ⟨LB, 0+23, none⟩) no (.bool d0.live))
            have HG5 := Lib.hid (HB4.out.far (p := ⟨LB, 0+23, none⟩) ng (.bool d0.live))
            have HL5 := Lib.hid (HB3.out.set (0+23) (.bool d0.live))
            have nb := HR4b.out.apart HB3.out (by decide)
            have HRB5 := Lib.hid (HR4b.out.far (p := ⟨LB, 0+23, none⟩) nb (.bool d0.live))
            clear nb HR3 HR4b
            generalize u4.setCell ⟨LB, 0+23, none⟩ (.bool d0.live) = u5 at *
            clear nr nc no ng HR4 HB1 HB2 HB3 HB4
            have c10 : u5.cell? ⟨w.heap.size + 1, 10, none⟩ = some (.slice (some ⟨LB, 0, none⟩) 2 2) := by rw [HC5.out.cell]; exact HE.out.2.1
            have q0 : u5.cell? ⟨r, 0, none⟩ = some (.int .u8 d0.wrap) := HR5.out.cell 0
            have q1 : u5.cell? ⟨r, 1, none⟩ = some (.bool d0.async) := HR5.out.cell 1
            have q4 : u5.cell? ⟨r, 4, none⟩ = some (.int .u32 d0.ws) := HR5.out.cell 4
            have q5 : u5.cell? ⟨r, 5, none⟩ = some (.int .u32 d0.wi) := HR5.out.cell 5
            have q6 : u5.cell? ⟨r, 6, none⟩ = some (.int .u32 0) := HR5.out.cell 6
            have q7 : u5.cell? ⟨r, 7, none⟩ = some (.int .u32 d0.ei) := HR5.out.cell 7
            obtain ⟨v2, y2, y2f⟩ := HL5.out.has (i := 0+2) (by rw [List.length_set]; omega)
            have hLs := HL5.out.lt
            have HS := Lib.hid (fun (X : World) (k : Kept u5 X) => (show X.cell? ⟨w.heap.size + 1, 10, none⟩ = some (.slice (some ⟨LB, 0, none⟩) 2 2) ∧ X.cell? ⟨r, 0, none⟩ = some (.int .u8 d0.wrap) ∧ X.cell? ⟨r, 1, none⟩ = some (.bool d0.async) ∧ X.cell? ⟨r, 4, none⟩ = some (.int .u32 d0.ws) ∧ X.cell? ⟨r, 5, none⟩ = some (.int .u32 d0.wi) ∧ X.cell? ⟨r, 6, none⟩ = some (.int .u32 0) ∧ X.cell? ⟨r, 7, none⟩ = some (.int .u32 d0.ei) from ⟨k.cell c10, k.cell q0, k.cell q1, k.cell q4, k.cell q5, k.cell q6, k.cell q7⟩))
            refine Late.region (S := fun X => X.cell? ⟨w.heap.size + 1, 10, none⟩ = some (.slice (some ⟨LB, 0, none⟩) 2 2) ∧ X.cell? ⟨r, 0, none⟩ = some (.int .u8 d0.wrap) ∧ X.cell? ⟨r, 1, none⟩ = some (.bool d0.async) ∧ X.cell? ⟨r, 4, none⟩ = some (.int .u32 d0.ws) ∧ X.cell? ⟨r, 5, none⟩ = some (.int .u32 d0.wi) ∧ X.cell? ⟨r, 6, none⟩ = some (.int .u32 0) ∧ X.cell? ⟨r, 7, none⟩ = some (.int .u32 d0.ei)) 30 (by kernel_rfl) (HS.out u5.drew ((Kept.refl u5).drew)) (fun hS0 => ?_)
            refine Late.take 0 (some 81) ?_ rfl rfl (by kernel_rfl) (by kernel_rfl) (by kernel_rfl) (by kernel_rfl) (fun _ _ _ h => h) (by kernel_rfl) (fun W hSW => ?_) hS0 ?_
            rotate_left
            · try dsimp only at hSW
              go_simp
              rfl
            simp only [Act.put, List.setIfInBounds_toArray, List.set_cons_zero, List.set_cons_succ]
            refine Late.take 1 (some 82) ?_ rfl rfl (by kernel_rfl) (by kernel_rfl) (by kernel_rfl) (by kernel_rfl) (fun _ _ _ h => h) (by kernel_rfl) (fun W hSW => ?_) hS0 ?_
            rotate_left
            · try dsimp only at hSW
              go_simp
              rfl
            simp only [Act.put, List.setIfInBounds_toArray, List.set_cons_zero, List.set_cons_succ]
            refine Late.take 2 (some 83) ?_ rfl rfl (by kernel_rfl) (by kernel_rfl) (by kernel_rfl) (by kernel_rfl) (fun _ _ _ h => h) (by kernel_rfl) (fun W hSW => ?_) hS0 ?_
            rotate_left
            · try dsimp only at hSW
              go_simp
              rfl
            simp only [Act.put, List.setIfInBounds_toArray, List.set_cons_zero, List.set_cons_succ]
            refine Late.take 3 (some 84) ?_ rfl rfl (by kernel_rfl) (by kernel_rfl) (by kernel_rfl) (by kernel_rfl) (fun _ _ _ h => h) (by kernel_rfl) (fun W hSW => ?_) hS0 ?_
            rotate_left
            · try dsimp only at hSW
              go_simp
              rfl
            simp only [Act.put, List.setIfInBounds_toArray, List.set_cons_zero, List.set_cons_succ]
            refine Late.take 4 (some 85) ?_ rfl rfl (by kernel_rfl) (by kernel_rfl) (by kernel_rfl) (by kernel_rfl) (fun _ _ _ h => h) (by kernel_rfl) (fun W hSW => ?_) hS0 ?_
            rotate_left
            · try dsimp only at hSW
              go_simp
              rfl
            simp only [Act.put, List.setIfInBounds_toArray, List.set_cons_zero, List.set_cons_succ]
            refine Late.take 5 (some 86) ?_ rfl rfl (by kernel_rfl) (by kernel_rfl) (by kernel_rfl) (by kernel_rfl) (fun _ _ _ h => h) (by kernel_rfl) (fun W hSW => ?_) hS0 ?_
            rotate_left
            · try dsimp only at hSW
              go_simp
              rfl
            simp only [Act.put, List.setIfInBounds_toArray, List.set_cons_zero, List.set_cons_succ]
            refine Late.take 6 (some 87) ?_ rfl rfl (by kernel_rfl) (by kernel_rfl) (by kernel_rfl) (by kernel_rfl) (fun _ _ _ h => h) (by kernel_rfl) (fun W hSW => ?_) hS0 ?_
            rotate_left
            · try dsimp only at hSW
              go_simp
              rfl
            simp only [Act.put, List.setIfInBounds_toArray, List.set_cons_zero, List.set_cons_succ]
            refine Late.take 7 (some 88) ?_ rfl rfl (by kernel_rfl) (by kernel_rfl) (by kernel_rfl) (by kernel_rfl) (fun _ _ _ h => h) (by kernel_rfl) (fun W hSW => ?_) hS0 ?_
            rotate_left
            · try dsimp only at hSW
              go_simp
              rfl
            simp only [Act.put, List.setIfInBounds_toArray, List.set_cons_zero, List.set_cons_succ]
            refine Late.take 8 (some 89) ?_ rfl rfl (by kernel_rfl) (by kernel_rfl) (by kernel_rfl) (by kernel_rfl) (fun _ _ _ h => h) (by kernel_rfl) (fun W hSW => ?_) hS0 ?_
            rotate_left
            · try dsimp only at hSW
              go_simp
              rfl
            simp only [Act.put, List.setIfInBounds_toArray, List.set_cons_zero, List.set_cons_succ]
            refine Late.take 9 (some 90) ?_ rfl rfl (by kernel_rfl) (by kernel_rfl) (by kernel_rfl) (by kernel_rfl) (fun _ _ _ h => h) (by kernel_rfl) (fun W hSW => ?_) hS0 ?_
            rotate_left
            · try dsimp only at hSW
              go_simp
              rfl
            simp only [Act.put, List.setIfInBounds_toArray, List.set_cons_zero, List.set_cons_succ]
            refine Late.take 10 (some 91) ?_ rfl rfl (by kernel_rfl) (by kernel_rfl) (by kernel_rfl) (by kernel_rfl) (fun _ _ _ h => h) (by kernel_rfl) (fun W hSW => ?_) hS0 ?_
            rotate_left
            · try dsimp only at hSW
              go_simp
              rfl
            simp only [Act.put, List.setIfInBounds_toArray, List.set_cons_zero, List.set_cons_succ]
            refine Late.take 11 (some 92) ?_ rfl rfl (by kernel_rfl) (by kernel_rfl) (by kernel_rfl) (by kernel_rfl) (fun _ _ _ h => h) (by kernel_rfl) (fun W hSW => ?_) hS0 ?_
            rotate_left
            · try dsimp only at hSW
              go_simp
              rfl
            simp only [Act.put, List.setIfInBounds_toArray, List.set_cons_zero, List.set_cons_succ]
            refine Late.take 12 (some 93) ?_ rfl rfl (by kernel_rfl) (by kernel_rfl) (by kernel_rfl) (by kernel_rfl) (fun _ _ _ h => h) (by kernel_rfl) (fun W hSW => ?_) hS0 ?_
            rotate_left
            · try dsimp only at hSW
              go_simp
              rfl
            simp only [Act.put, List.setIfInBounds_toArray, List.set_cons_zero, List.set_cons_succ]
            refine Late.take 13 (some 94) ?_ rfl rfl (by kernel_rfl) (by kernel_rfl) (by kernel_rfl) (by kernel_rfl) (fun _ _ _ h => h) (by kernel_rfl) (fun W hSW => ?_) hS0 ?_
            rotate_left
            · try dsimp only at hSW
              go_simp
              rfl
            simp only [Act.put, List.setIfInBounds_toArray, List.set_cons_zero, List.set_cons_succ]
            refine Late.take 14 (some 95) ?_ rfl rfl (by kernel_rfl) (by kernel_rfl) (by kernel_rfl) (by kernel_rfl) (fun _ _ _ h => h) (by kernel_rfl) (fun W hSW => ?_) hS0 ?_
            rotate_left
            · try dsimp only at hSW
              go_simp
              rfl
            simp only [Act.put, List.setIfInBounds_toArray, List.set_cons_zero, List.set_cons_succ]
            refine Late.take 15 (some 96) ?_ rfl rfl (by kernel_rfl) (by kernel_rfl) (by kernel_rfl) (by kernel_rfl) (fun _ _ _ h => h) (by kernel_rfl) (fun W hSW => ?_) hS0 ?_
            rotate_left
            · try dsimp only at hSW
              go_simp
              rfl
            simp only [Act.put, List.setIfInBounds_toArray, List.set_cons_zero, List.set_cons_succ]
            refine Late.take 16 (some 97) ?_ rfl rfl (by kernel_rfl) (by kernel_rfl) (by kernel_rfl) (by kernel_rfl) (fun _ _ _ h => h) (by kernel_rfl) (fun W hSW => ?_) hS0 ?_
            rotate_left
            · try dsimp only at hSW
              go_simp
              rfl
            simp only [Act.put, List.setIfInBounds_toArray, List.set_cons_zero, List.set_cons_succ]
            refine Late.take 17 (some 98) ?_ rfl rfl (by kernel_rfl) (by kernel_rfl) (by kernel_rfl) (by kernel_rfl) (fun _ _ _ h => h) (by kernel_rfl) (fun W hSW => ?_) hS0 ?_
            rotate_left
            · try dsimp only at hSW
              go_simp
              rfl
            simp only [Act.put, List.setIfInBounds_toArray, List.set_cons_zero, List.set_cons_succ]
            refine Late.take 18 (some 99) ?_ rfl rfl (by kernel_rfl) (by kernel_rfl) (by kernel_rfl) (by kernel_rfl) (fun _ _ _ h => h) (by kernel_rfl) (fun W hSW => ?_) hS0 ?_
            rotate_left
            · try dsimp only at hSW
              go_simp
              rfl
            simp only [Act.put, List.setIfInBounds_toArray, List.set_cons_zero, List.set_cons_succ]
            refine Late.take 19 (some 100) ?_ rfl rfl (by kernel_rfl) (by kernel_rfl) (by kernel_rfl) (by kernel_rfl) (fun _ _ _ h => h) (by kernel_rfl) (fun W hSW => ?_) hS0 ?_
            rotate_left
            · try dsimp only at hSW
              go_simp
              rfl
            simp only [Act.put, List.setIfInBounds_toArray, List.set_cons_zero, List.set_cons_succ]
            refine Late.take 20 (some 101) ?_ rfl rfl (by kernel_rfl) (by kernel_rfl) (by kernel_rfl) (by kernel_rfl) (fun _ _ _ h => h) (by kernel_rfl) (fun W hSW => ?_) hS0 ?_
            rotate_left
            · try dsimp only at hSW
              go_simp
              rfl
            simp only [Act.put, List.setIfInBounds_toArray, List.set_cons_zero, List.set_cons_succ]
            refine Late.take 21 (some 102) ?_ rfl rfl (by kernel_rfl) (by kernel_rfl) (by kernel_rfl) (by kernel_rfl) (fun _ _ _ h => h) (by kernel_rfl) (fun W hSW => ?_) hS0 ?_
            rotate_left
            · try dsimp only at hSW
              go_simp
              rfl
            simp only [Act.put, List.setIfInBounds_toArray, List.set_cons_zero, List.set_cons_succ]
            refine Late.take 22 (some 103) ?_ rfl rfl (by kernel_rfl) (by kernel_rfl) (by kernel_rfl) (by kernel_rfl) (fun _ _ _ h => h) (by kernel_rfl) (fun W hSW => ?_) hS0 ?_
            rotate_left
            · try dsimp only at hSW
              go_simp
              rfl
            simp only [Act.put, List.setIfInBounds_toArray, List.set_cons_zero, List.set_cons_succ]
            refine Late.take 23 (some 104) ?_ rfl rfl (by kernel_rfl) (by kernel_rfl) (by kernel_rfl) (by kernel_rfl) (fun _ _ _ h => h) (by kernel_rfl) (fun W hSW => ?_) hS0 ?_
            rotate_left
            · try dsimp only at hSW
              go_simp
              rfl
            simp only [Act.put, List.setIfInBounds_toArray, List.set_cons_zero, List.set_cons_succ]
            refine Late.take 24 (some 105) ?_ rfl rfl (by kernel_rfl) (by kernel_rfl) (by kernel_rfl) (by kernel_rfl) (fun _ _ _ h => h) (by kernel_rfl) (fun W hSW => ?_) hS0 ?_
            rotate_left
            · try dsimp only at hSW
              go_simp
              rfl
            simp only [Act.put, List.setIfInBounds_toArray, List.set_cons_zero, List.set_cons_succ]
            refine Late.ready (rs := [25]) (by kernel_rfl) (by simp) ?_
            refine LateAll.cons rfl (fun K hK => ?_) (LateAll.nil)
            go_simp
            refine hK.out _ _ (HS.out _ (by repeat (first | exact Kept.refl _ | apply Kept.drew | apply Kept.alloc))) (fun hS1 => ?_)
            clear hK K
            refine Late.take 26 (some 107) ?_ rfl rfl (by kernel_rfl) (by kernel_rfl) (by kernel_rfl) (by kernel_rfl) (fun _ _ _ h => h) (by kernel_rfl) (fun W hSW => ?_) hS1 ?_
            rotate_left
            · try dsimp only at hSW
              go_simp
              rfl
            simp only [Act.put, List.setIfInBounds_toArray, List.set_cons_zero, List.set_cons_succ]
            refine Late.ready (rs := [27]) (by kernel_rfl) (by simp) ?_
            refine LateAll.cons rfl (fun K hK => ?_) (LateAll.nil)
            go_simp
            refine hK.out _ _ (by assumption) (fun hS2 => ?_)
            clear hK K
            refine Late.ready (rs := [28]) (by kernel_rfl) (by simp) ?_
            refine LateAll.cons rfl (fun K hK => ?_) (LateAll.nil)
            go_simp
            refine hK.out _ _ (by assumption) (fun hS3 => ?_)
            clear hK K
            refine Late.take 29 (some 110) ?_ rfl rfl (by kernel_rfl) (by kernel_rfl) (by kernel_rfl) (by kernel_rfl) (fun _ _ _ h => h) (by kernel_rfl) (fun W hSW => ?_) hS3 ?_
            rotate_left
            · try dsimp only at hSW
              go_simp
              rfl
            simp only [Act.put, List.setIfInBounds_toArray, List.set_cons_zero, List.set_cons_succ]
            refine Late.ready (rs := [30]) (by kernel_rfl) (by simp) ?_
            refine LateAll.last rfl (fun K hK => ?_)
            go_simp
            refine hK.out _ _ ?_
            clear hK K
            refine Late.done (by kernel_rfl) ?_ _
            generalize hu6 : (World.alloc _ (Obj.cells _ 196)).drew = u6
            obtain ⟨js, hjb, hjp, hk6⟩ := newBlk (fun js => JsL js d0 ∧ js[35]? = some (.slice (some ⟨RB, 0, none⟩) 1 1)) hu6 ⟨⟨rfl, rfl, rfl, rfl, rfl, rfl, rfl⟩, rfl⟩
            have ej : (u5.setCell ⟨LB, 0+2, none⟩ (.iface 168 (.pointer (some ⟨u5.heap.size, 0, none⟩)))).heap.size = u5.heap.size := by simp [World.setCell]
            have hjb : Blk u6 u5.heap.size 196 js := ej ▸ hjb
            have HJB := Lib.hid hjb
            have HJP := Lib.hid hjp
            have nc := HC5.out.apart HL5.out (by decide)
            have no := HO5.out.apart HL5.out (by decide)
            have ng := HG5.out.apart HL5.out (by decide)
            have hset := HL5.out.set (0+2) (.iface 168 (.pointer (some ⟨u5.heap.size, 0, none⟩)))
            have HC6 := Lib.hid ((HC5.out.far (p := ⟨LB, 0+2, none⟩) nc (.iface 168 (.pointer (some ⟨u5.heap.size, 0, none⟩)))).kept hk6)
            have HO6 := Lib.hid ((HO5.out.far (p := ⟨LB, 0+2, none⟩) no (.iface 168 (.pointer (some ⟨u5.heap.size, 0, none⟩)))).kept hk6)
            have HG6 := Lib.hid ((HG5.out.far (p := ⟨LB, 0+2, none⟩) ng (.iface 168 (.pointer (some ⟨u5.heap.size, 0, none⟩)))).kept hk6)
            have HL6 := Lib.hid (hset.kept hk6)
            have KW6 := Lib.hid ((KW5.out.setCell (p := ⟨LB, 0+2, none⟩) HX3.out.lo.1 (.iface 168 (.pointer (some ⟨u5.heap.size, 0, none⟩)))).trans hk6)
            have nb := HRB5.out.apart HL5.out (by decide)
            have HRB6 := Lib.hid ((HRB5.out.far (p := ⟨LB, 0+2, none⟩) nb (.iface 168 (.pointer (some ⟨u5.heap.size, 0, none⟩)))).kept hk6)
            clear hu6 ej hjb hjp hk6 nc no ng hset nb HRB5 HC5 HO5 HG5 HL5 KW5 HR5 c10 q0 q1 q4 q5 q6 q7 y2 y2f hLs HS
            generalize u5.heap.size = J at *
            obtain ⟨C8, l8, _, g8, m8⟩ := makeN1 (T := 170) (E := 202) (size := 10) (bytes := 48) Tryd.underlying170 (by kernel_rfl) (by kernel_rfl) 8 (by omega) (by omega)
            have m9 : ∀ w : World, (Instr.makeSlice 170 (.int .i64 8) (.int .i64 8)).run Tryd.prog w = .ok (.slice (some ⟨w.heap.size, 0, none⟩) 8 8) (w.alloc (.cells C8.toArray 202)) := m8
            clear m8 g8
            go_upto_region 22 with fail
            clear m9
            have HS0 : Hid (TSy u6 u6.heap.size (.int .i64 0) (u6.alloc (.cells C8.toArray 202))) := Lib.hid ⟨0, by omega, rfl, (Kept.refl u6).alloc _, C8, Blk.new u6 202 C8, l8, fun i hi => absurd hi (by omega)⟩
            generalize u6.alloc (.cells C8.toArray 202) = u7 at *
            have hsE : ∃ s, s = u6.heap.size := ⟨_, rfl⟩
            obtain ⟨s, hsE⟩ := hsE
            rw [← hsE] at HS0 ⊢
            have HSE := Lib.hid hsE
            clear hsE
            go_loopw [114] (fun t W => TSy u6 s t W) (fun t _ => 8 - (intOf t).toNat)
            case atStart => exact HS0.out
            case round =>
              obtain ⟨j, hj, rfl, hk8, scs, hsb, hsl, hun⟩ := hrel
              obtain ⟨u8, rfl⟩ : ∃ u8 : World, u8 = wr := ⟨_, rfl⟩
              have K8 := Lib.hid hk8
              have HSB := Lib.hid hsb
              have HUN := Lib.hid hun
              clear hk8 hsb hun HS0
              by_cases hj8 : j < 8
              · have j0 : (j : Int) < 8 := by omega
                have i0 := K8.out.cell (KW6.out.cell HI0.out)
                have i1 := K8.out.cell (KW6.out.cell HI1.out)
                obtain ⟨va, a1, a2⟩ := HSB.out.has (i := j * 10 + 2) (by omega)
                obtain ⟨vb, b1, b2⟩ := HSB.out.has (i := j * 10 + 2 + 1) (by omega)
                have HN : Hid (TSy u6 s (.int .i64 ((j : Int) + 1)) ((u8.setCell ⟨s, j * 10 + 2, none⟩ (.int .u32 4294967295)).setCell ⟨s, j * 10 + 2 + 1, none⟩ (.int .u32 4294967295))) := Lib.hid ⟨j + 1, by omega, by go_num, (K8.out.setCell (p := ⟨s, j * 10 + 2, none⟩) (by rw [HSE.out]; exact Nat.le_refl _) _).setCell (p := ⟨s, j * 10 + 2 + 1, none⟩) (by rw [HSE.out]; exact Nat.le_refl _) _, _, (HSB.out.set _ _).set _ _, by simpa using hsl, fun i hi => by
                  by_cases e : i = j
                  · subst e
                    exact ⟨by rw [List.getElem?_set_ne (by omega), List.getElem?_set_self (by omega)], by rw [List.getElem?_set_self (by rw [List.length_set]; omega)]⟩
                  · rw [List.getElem?_set_ne (by omega), List.getElem?_set_ne (by omega), List.getElem?_set_ne (by omega), List.getElem?_set_ne (by omega)]
                    exact HUN.out i (by omega)⟩
                go_wp2_with fail
                go_roundw
                case rel => first | exact HN.out | ((repeat apply Exists.intro); exact ⟨HN.out, rfl⟩)
                case measure => simp [intOf]; omega
              · obtain rfl : j = 8 := by omega
                have c12 : u8.cell? ⟨w.heap.size + 1, 12, none⟩ = some (.slice (some ⟨g, 0, none⟩) 2 2) := by rw [(HC6.out.kept K8.out).cell]; exact HE.out.2.2.1
                have HG8 := Lib.hid (HG6.out.kept K8.out)
                have HJB8 := Lib.hid (HJB.out.kept K8.out)
                have HL8 := Lib.hid (HL6.out.kept K8.out)
                have HSC : Hid (Blk u8 s 202 scs ∧ Unl scs) := Lib.hid ⟨HSB.out, HUN.out⟩
                have HRB8 := Lib.hid (HRB6.out.kept K8.out)
                obtain ⟨vg, z1, z2⟩ := HG8.out.has (i := 0) (by omega)
                have nl := HL8.out.apart HG8.out (by decide)
                have nc := (HC6.out.kept K8.out).apart HG8.out (by decide)
                have no := (HO6.out.kept K8.out).apart HG8.out (by decide)
                have HN : Hid (Cx w (u8.setCell ⟨g, 0, none⟩ (.slice (some ⟨s, 0, none⟩) 8 8)) (w.heap.size + 1) w.heap.size LB g fmt d0 d1 tg 1) := Lib.hid ⟨(KW6.out.trans K8.out).setCell (p := ⟨g, 0, none⟩) HX3.out.lo.2 _, ⟨ccs, ocs, (HC6.out.kept K8.out).far (p := ⟨g, 0, none⟩) nc _, HE.out.1, HE.out.2.1, HE.out.2.2.1, (HO6.out.kept K8.out).far (p := ⟨g, 0, none⟩) no _, HE.out.2.2.2⟩, HX3.out.lo, _, _, HL8.out.far (p := ⟨g, 0, none⟩) nl _, by simpa using ll, HG8.out.set 0 _, by simpa using gl, fun _ => ⟨J, RB, s, js, rcs, scs, by rw [List.getElem?_set_self (by rw [List.length_set]; omega)], by rw [List.getElem?_set_self (by omega)], HJB8.out.far (p := ⟨g, 0, none⟩) (HJB8.out.apart HG8.out (by decide)) _, HJP.out.1, HJP.out.2, HRB8.out.far (p := ⟨g, 0, none⟩) (HRB8.out.apart HG8.out (by decide)) _, HF3.out.1, HF3.out.2, HSC.out.1.far (p := ⟨g, 0, none⟩) (HSC.out.1.apart HG8.out (by decide)) _, HSC.out.2⟩, fun q => absurd q (by omega)⟩
                clear nl nc no
                go_wp2_with fail
                go_roundw
                case rel => exact ⟨1, by omega, rfl, HN.out⟩
                case measure => simp [intOf]
    · rw [show ((1 : Nat) : Int) = 1 from rfl]
      have z0 : wo.cell? ⟨fb, 9, none⟩ = some (.int .u8 d1.wrap) := (HFB.out.kept HX.out.kept).cell 9
      have z1 : wo.cell? ⟨fb, 10, none⟩ = some (.bool d1.async) := (HFB.out.kept HX.out.kept).cell 10
      have z2 : wo.cell? ⟨fb, 11, none⟩ = some (.bool d1.live) := (HFB.out.kept HX.out.kept).cell 11
      have z3 : wo.cell? ⟨fb, 12, none⟩ = some (.bool d1.cjs) := (HFB.out.kept HX.out.kept).cell 12
      have z4 : wo.cell? ⟨fb, 13, none⟩ = some (.int .u32 d1.ws) := (HFB.out.kept HX.out.kept).cell 13
      have z5 : wo.cell? ⟨fb, 14, none⟩ = some (.int .u32 d1.wi) := (HFB.out.kept HX.out.kept).cell 14
      have z6 : wo.cell? ⟨fb, 15, none⟩ = some (.int .u32 0) := (HFB.out.kept HX.out.kept).cell 15
      have z7 : wo.cell? ⟨fb, 16, none⟩ = some (.int .u32 d1.ei) := (HFB.out.kept HX.out.kept).cell 16
      have z8 : wo.cell? ⟨fb, 17, none⟩ = some (.slice none 0 0) := (HFB.out.kept HX.out.kept).cell 17
      go_upto_region 8 with fail
      have KA := Lib.hid ((Kept.refl wo).alloc (.cells #[.int .u8 d1.wrap, .bool d1.async, .bool d1.live, .bool d1.cjs, .int .u32 d1.ws, .int .u32 d1.wi, .int .u32 0, .int .u32 d1.ei, .slice none 0 0] 131))
      have HR1 : Hid (Blk (wo.alloc (.cells #[.int .u8 d1.wrap, .bool d1.async, .bool d1.live, .bool d1.cjs, .int .u32 d1.ws, .int .u32 d1.wi, .int .u32 0, .int .u32 d1.ei, .slice none 0 0] 131)) wo.heap.size 131 [.int .u8 d1.wrap, .bool d1.async, .bool d1.live, .bool d1.cjs, .int .u32 d1.ws, .int .u32 d1.wi, .int .u32 0, .int .u32 d1.ei, .slice none 0 0]) := Lib.hid (Blk.new wo 131 _)
      have HX1 := Lib.hid (HX.out.kept2 KA.out)
      generalize wo.alloc (.cells #[.int .u8 d1.wrap, .bool d1.async, .bool d1.live, .bool d1.cjs, .int .u32 d1.ws, .int .u32 d1.wi, .int .u32 0, .int .u32 d1.ei, .slice none 0 0] 131) = u1 at *
      generalize wo.heap.size = r at *
      clear z0 z1 z2 z3 z4 z5 z6 z7 z8 HX KA
      have r8 : u1.cell? ⟨r, 8, none⟩ = some (.slice none 0 0) := HR1.out.cell 8
      obtain ⟨C2, l2, _, g2, m2⟩ := makeN1 (T := 132) (E := 145) (size := 15) (bytes := 112) Tryd.underlying132 (by kernel_rfl) (by kernel_rfl) 0 (by omega) (by omega)
      have m3 : ∀ w : World, (Instr.makeSlice 132 (.int .i64 0) (.int .i64 0)).run Tryd.prog w = .ok (.slice (some ⟨w.heap.size, 0, none⟩) 0 0) (w.alloc (.cells C2.toArray 145)) := m2
      clear m2
      go_upto_region 9 with fail
      clear m3
      have KW1 := Lib.hid HX1.out.kept
      have K2 := Lib.hid ((Kept.refl u1).alloc (.cells C2.toArray 145))
      have HRB : Hid (Blk (u1.alloc (.cells C2.toArray 145)) u1.heap.size 145 C2) := Lib.hid (Blk.new u1 145 C2)
      generalize u1.alloc (.cells C2.toArray 145) = u2 at *
      generalize hrb : u1.heap.size = RB at *
      have HRE := Lib.hid hrb
      clear hrb
      have r8 := K2.out.cell r8
      go_upto_region 10 with fail
      go_loopw [48] (fun t48 W => t48 = .int .i64 0 ∧ W = u2) (fun _ _ => 0)
      case atStart => exact ⟨rfl, rfl⟩
      case round =>
        obtain ⟨rfl, rfl⟩ := hrel
        obtain ⟨u3, rfl⟩ : ∃ u3 : World, u3 = wr := ⟨_, rfl⟩
        have K3 := K2
        clear r8 K2
        have HR3b := Lib.hid (HR1.out.kept K3.out)
        have HX3 := Lib.hid (HX1.out.kept2 K3.out)
        have r3 : u3.cell? ⟨r, 3, none⟩ = some (.bool d1.cjs) := HR3b.out.cell 3
        go_upto_if 70 with (fail)
        go_cut [10] (fun t W => Hid (t = .int .u8 (kdv d1.cjs)) ∧ W = u3)
        case first =>
          generalize d1.cjs = cj at *
          cases cj
          all_goals
            go_wp2_with fail
            go_meet
            exact ⟨Lib.hid rfl, rfl⟩
        case rest =>
          obtain ⟨ht10, rfl⟩ := hcut
          obtain rfl := ht10.out
          obtain ⟨u3, rfl⟩ : ∃ u3 : World, u3 = wc := ⟨_, rfl⟩
          clear ht10 r3
          obtain ⟨ccs, ocs, b1, e0, e10, e12, b2, e98⟩ := HX3.out.c
          obtain ⟨lcs, gcs, b3, ll, b4, gl, hf0, hf1⟩ := HX3.out.f
          have c10 : u3.cell? ⟨w.heap.size + 1, 10, none⟩ = some (.slice (some ⟨LB, 0, none⟩) 2 2) := by rw [b1.cell]; exact e10
          have r2 : u3.cell? ⟨r, 2, none⟩ = some (.bool d1.live) := HR3b.out.cell 2
          obtain ⟨v23, y23, y23f⟩ := b3.has (i := 24+23) (by omega)
          have HB1 := Lib.hid b1
          have HB2 := Lib.hid b2
          have HB3 := Lib.hid b3
          have HB4 := Lib.hid b4
          have HE := Lib.hid (And.intro e0 (And.intro e10 (And.intro e12 e98)))
          have HF := Lib.hid (And.intro hf0 hf1)
          have hLs := b3.lt
          clear b1 b2 b3 b4 e0 e10 e12 e98 hf0 hf1
          go_upto_region 18 with fail
          go_still_tail 10, (by kernel_rfl)
          change wpList _ _ _ _ _ u3.drew
          have KD := Lib.hid (K3.out.drew)
          have HR4 := Lib.hid (HR3b.out.drew)
          have HF4 := Lib.hid ((HF.out.1 (by omega)).kept ((Kept.refl u3).drew))
          have HB1 := Lib.hid (HB1.out.drew)
          have HB2 := Lib.hid (HB2.out.drew)
          have HB3 := Lib.hid (HB3.out.drew)
          have HB4 := Lib.hid (HB4.out.drew)
          have y23 : u3.drew.cell? ⟨LB, 24+23, none⟩ = some v23 := y23
          have y23f : u3.drew.frozen? ⟨LB, 24+23, none⟩ = false := y23f
          have HX4 := Lib.hid (HX3.out.kept2 (Kept.refl _).drew)
          generalize u3.drew = u4 at *
          clear c10 r2
          go_upto_region 19 with fail
          clear y23 y23f HX4
          have KW5 : Hid (Kept w (u4.setCell ⟨LB, 24+23, none⟩ (.bool d1.live))) := Lib.hid ((KW1.out.trans KD.out).setCell (p := ⟨LB, 24+23, none⟩) HX3.out.lo.1 _)
          have nr := HR4.out.apart HB3.out (by decide)
          have nc := HB1.out.apart HB3.out (by decide)
          have no := HB2.out.apart HB3.out (by decide)
          have ng := HB4.out.apart HB3.out (by decide)
          have HR5 := Lib.hid (HR4.out.far (p := ⟨LB, 24+23, none⟩) nr (.bool d1.live))
          have HC5 := Lib.hid (HB1.out.far (p := ⟨LB, 24+23, none⟩) nc (.bool d1.live))
          have HO5 := Lib.hid (HB2.out.far (p := ⟨LB, 24+23, none⟩) no (.bool d1.live))
          have HG5 := Lib.hid (HB4.out.far (p := ⟨LB, 24+23, none⟩) ng (.bool d1.live))
          have HL5 := Lib.hid (HB3.out.set (24+23) (.bool d1.live))
          have HF05 := Lib.hid (HF4.out.far (o := 24+23) HB3.out (by decide) (by decide) (by decide) (.bool d1.live) (lcs2 := lcs.set (24+23) (.bool d1.live)) (gcs2 := gcs) (by rw [List.getElem?_set_ne (by omega)]) rfl)
          clear HF4
          generalize u4.setCell ⟨LB, 24+23, none⟩ (.bool d1.live) = u5 at *
          clear nr nc no ng HR4 HB1 HB2 HB3 HB4
          have c10 : u5.cell? ⟨w.heap.size + 1, 10, none⟩ = some (.slice (some ⟨LB, 0, none⟩) 2 2) := by rw [HC5.out.cell]; exact HE.out.2.1
          have q0 : u5.cell? ⟨r, 0, none⟩ = some (.int .u8 d1.wrap) := HR5.out.cell 0
          have q1 : u5.cell? ⟨r, 1, none⟩ = some (.bool d1.async) := HR5.out.cell 1
          have q4 : u5.cell? ⟨r, 4, none⟩ = some (.int .u32 d1.ws) := HR5.out.cell 4
          have q5 : u5.cell? ⟨r, 5, none⟩ = some (.int .u32 d1.wi) := HR5.out.cell 5
          have q6 : u5.cell? ⟨r, 6, none⟩ = some (.int .u32 0) := HR5.out.cell 6
          have q7 : u5.cell? ⟨r, 7, none⟩ = some (.int .u32 d1.ei) := HR5.out.cell 7
          obtain ⟨v2, y2, y2f⟩ := HL5.out.has (i := 24+2) (by rw [List.length_set]; omega)
          have hLs := HL5.out.lt
          have HS := Lib.hid (fun (X : World) (k : Kept u5 X) => (show X.cell? ⟨w.heap.size + 1, 10, none⟩ = some (.slice (some ⟨LB, 0, none⟩) 2 2) ∧ X.cell? ⟨r, 0, none⟩ = some (.int .u8 d1.wrap) ∧ X.cell? ⟨r, 1, none⟩ = some (.bool d1.async) ∧ X.cell? ⟨r, 4, none⟩ = some (.int .u32 d1.ws) ∧ X.cell? ⟨r, 5, none⟩ = some (.int .u32 d1.wi) ∧ X.cell? ⟨r, 6, none⟩ = some (.int .u32 0) ∧ X.cell? ⟨r, 7, none⟩ = some (.int .u32 d1.ei) from ⟨k.cell c10, k.cell q0, k.cell q1, k.cell q4, k.cell q5, k.cell q6, k.cell q7⟩))
          refine Late.region (S := fun X => X.cell? ⟨w.heap.size + 1, 10, none⟩ = some (.slice (some ⟨LB, 0, none⟩) 2 2) ∧ X.cell? ⟨r, 0, none⟩ = some (.int .u8 d1.wrap) ∧ X.cell? ⟨r, 1, none⟩ = some (.bool d1.async) ∧ X.cell? ⟨r, 4, none⟩ = some (.int .u32 d1.ws) ∧ X.cell? ⟨r, 5, none⟩ = some (.int .u32 d1.wi) ∧ X.cell? ⟨r, 6, none⟩ = some (.int .u32 0) ∧ X.cell? ⟨r, 7, none⟩ = some (.int .u32 d1.ei)) 30 (by kernel_rfl) (HS.out u5.drew ((Kept.refl u5).drew)) (fun hS0 => ?_)
          refine Late.take 0 (some 81) ?_ rfl rfl (by kernel_rfl) (by kernel_rfl) (by kernel_rfl) (by kernel_rfl) (fun _ _ _ h => h) (by kernel_rfl) (fun W hSW => ?_) hS0 ?_
          rotate_left
          · try dsimp only at hSW
            go_simp
            rfl
          simp only [Act.put, List.setIfInBounds_toArray, List.set_cons_zero, List.set_cons_succ]
          refine Late.take 1 (some 82) ?_ rfl rfl (by kernel_rfl) (by kernel_rfl) (by kernel_rfl) (by kernel_rfl) (fun _ _ _ h => h) (by kernel_rfl) (fun W hSW => ?_) hS0 ?_
          rotate_left
          · try dsimp only at hSW
            go_simp
            rfl
          simp only [Act.put, List.setIfInBounds_toArray, List.set_cons_zero, List.set_cons_succ]
          refine Late.take 2 (some 83) ?_ rfl rfl (by kernel_rfl) (by kernel_rfl) (by kernel_rfl) (by kernel_rfl) (fun _ _ _ h => h) (by kernel_rfl) (fun W hSW => ?_) hS0 ?_
          rotate_left
          · try dsimp only at hSW
            go_simp
            rfl
          simp only [Act.put, List.setIfInBounds_toArray, List.set_cons_zero, List.set_cons_succ]
          refine Late.take 3 (some 84) ?_ rfl rfl (by kernel_rfl) (by kernel_rfl) (by kernel_rfl) (by kernel_rfl) (fun _ _ _ h => h) (by kernel_rfl) (fun W hSW => ?_) hS0 ?_
          rotate_left
          · try dsimp only at hSW
            go_simp
            rfl
          simp only [Act.put, List.setIfInBounds_toArray, List.set_cons_zero, List.set_cons_succ]
          refine Late.take 4 (some 85) ?_ rfl rfl (by kernel_rfl) (by kernel_rfl) (by kernel_rfl) (by kernel_rfl) (fun _ _ _ h => h) (by kernel_rfl) (fun W hSW => ?_) hS0 ?_
          rotate_left
          · try dsimp only at hSW
            go_simp
            rfl
          simp only [Act.put, List.setIfInBounds_toArray, List.set_cons_zero, List.set_cons_succ]
          refine Late.take 5 (some 86) ?_ rfl rfl (by kernel_rfl) (by kernel_rfl) (by kernel_rfl) (by kernel_rfl) (fun _ _ _ h => h) (by kernel_rfl) (fun W hSW => ?_) hS0 ?_
          rotate_left
          · try dsimp only at hSW
            go_simp
            rfl
          simp only [Act.put, List.setIfInBounds_toArray, List.set_cons_zero, List.set_cons_succ]
          refine Late.take 6 (some 87) ?_ rfl rfl (by kernel_rfl) (by kernel_rfl) (by kernel_rfl) (by kernel_rfl) (fun _ _ _ h => h) (by kernel_rfl) (fun W hSW => ?_) hS0 ?_
          rotate_left
          · try dsimp only at hSW
            go_simp
            rfl
          simp only [Act.put, List.setIfInBounds_toArray, List.set_cons_zero, List.set_cons_succ]
          refine Late.take 7 (some 88) ?_ rfl rfl (by kernel_rfl) (by kernel_rfl) (by kernel_rfl) (by kernel_rfl) (fun _ _ _ h => h) (by kernel_rfl) (fun W hSW => ?_) hS0 ?_
          rotate_left
          · try dsimp only at hSW
            go_simp
            rfl
          simp only [Act.put, List.setIfInBounds_toArray, List.set_cons_zero, List.set_cons_succ]
          refine Late.take 8 (some 89) ?_ rfl rfl (by kernel_rfl) (by kernel_rfl) (by kernel_rfl) (by kernel_rfl) (fun _ _ _ h => h) (by kernel_rfl) (fun W hSW => ?_) hS0 ?_
          rotate_left
          · try dsimp only at hSW
            go_simp
            rfl
          simp only [Act.put, List.setIfInBounds_toArray, List.set_cons_zero, List.set_cons_succ]
          refine Late.take 9 (some 90) ?_ rfl rfl (by kernel_rfl) (by kernel_rfl) (by kernel_rfl) (by kernel_rfl) (fun _ _ _ h => h) (by kernel_rfl) (fun W hSW => ?_) hS0 ?_
          rotate_left
          · try dsimp only at hSW
            go_simp
            rfl
          simp only [Act.put, List.setIfInBounds_toArray, List.set_cons_zero, List.set_cons_succ]
          refine Late.take 10 (some 91) ?_ rfl rfl (by kernel_rfl) (by kernel_rfl) (by kernel_rfl) (by kernel_rfl) (fun _ _ _ h => h) (by kernel_rfl) (fun W hSW => ?_) hS0 ?_
          rotate_left
          · try dsimp only at hSW
            go_simp
            rfl
          simp only [Act.put, List.setIfInBounds_toArray, List.set_cons_zero, List.set_cons_succ]
          refine Late.take 11 (some 92) ?_ rfl rfl (by kernel_rfl) (by kernel_rfl) (by kernel_rfl) (by kernel_rfl) (fun _ _ _ h => h) (by kernel_rfl) (fun W hSW => ?_) hS0 ?_
          rotate_left
          · try dsimp only at hSW
            go_simp
            rfl
          simp only [Act.put, List.setIfInBounds_toArray, List.set_cons_zero, List.set_cons_succ]
          refine Late.take 12 (some 93) ?_ rfl rfl (by kernel_rfl) (by kernel_rfl) (by kernel_rfl) (by kernel_rfl) (fun _ _ _ h => h) (by kernel_rfl) (fun W hSW => ?_) hS0 ?_
          rotate_left
          · try dsimp only at hSW
            go_simp
            rfl
          simp only [Act.put, List.setIfInBounds_toArray, List.set_cons_zero, List.set_cons_succ]
          refine Late.take 13 (some 94) ?_ rfl rfl (by kernel_rfl) (by kernel_rfl) (by kernel_rfl) (by kernel_rfl) (fun _ _ _ h => h) (by kernel_rfl) (fun W hSW => ?_) hS0 ?_
          rotate_left
          · try dsimp only at hSW
            go_simp
            rfl
          simp only [Act.put, List.setIfInBounds_toArray, List.set_cons_zero, List.set_cons_succ]
          refine Late.take 14 (some 95) ?_ rfl rfl (by kernel_rfl) (by kernel_rfl) (by kernel_rfl) (by kernel_rfl) (fun _ _ _ h => h) (by kernel_rfl) (fun W hSW => ?_) hS0 ?_
          rotate_left
          · try dsimp only at hSW
            go_simp
            rfl
          simp only [Act.put, List.setIfInBounds_toArray, List.set_cons_zero, List.set_cons_succ]
          refine Late.take 15 (some 96) ?_ rfl rfl (by kernel_rfl) (by kernel_rfl) (by kernel_rfl) (by kernel_rfl) (fun _ _ _ h => h) (by kernel_rfl) (fun W hSW => ?_) hS0 ?_
          rotate_left
          · try dsimp only at hSW
            go_simp
            rfl
          simp only [Act.put, List.setIfInBounds_toArray, List.set_cons_zero, List.set_cons_succ]
          refine Late.take 16 (some 97) ?_ rfl rfl (by kernel_rfl) (by kernel_rfl) (by kernel_rfl) (by kernel_rfl) (fun _ _ _ h => h) (by kernel_rfl) (fun W hSW => ?_) hS0 ?_
          rotate_left
          · try dsimp only at hSW
            go_simp
            rfl
          simp only [Act.put, List.setIfInBounds_toArray, List.set_cons_zero, List.set_cons_succ]
          refine Late.take 17 (some 98) ?_ rfl rfl (by kernel_rfl) (by kernel_rfl) (by kernel_rfl) (by kernel_rfl) (fun _ _ _ h => h) (by kernel_rfl) (fun W hSW => ?_) hS0 ?_
          rotate_left
          · try dsimp only at hSW
            go_simp
            rfl
          simp only [Act.put, List.setIfInBounds_toArray, List.set_cons_zero, List.set_cons_succ]
          refine Late.take 18 (some 99) ?_ rfl rfl (by kernel_rfl) (by kernel_rfl) (by kernel_rfl) (by kernel_rfl) (fun _ _ _ h => h) (by kernel_rfl) (fun W hSW => ?_) hS0 ?_
          rotate_left
          · try dsimp only at hSW
            go_simp
            rfl
          simp only [Act.put, List.setIfInBounds_toArray, List.set_cons_zero, List.set_cons_succ]
          refine Late.take 19 (some 100) ?_ rfl rfl (by kernel_rfl) (by kernel_rfl) (by kernel_rfl) (by kernel_rfl) (fun _ _ _ h => h) (by kernel_rfl) (fun W hSW => ?_) hS0 ?_
          rotate_left
          · try dsimp only at hSW
            go_simp
            rfl
          simp only [Act.put, List.setIfInBounds_toArray, List.set_cons_zero, List.set_cons_succ]
          refine Late.take 20 (some 101) ?_ rfl rfl (by kernel_rfl) (by kernel_rfl) (by kernel_rfl) (by kernel_rfl) (fun _ _ _ h => h) (by kernel_rfl) (fun W hSW => ?_) hS0 ?_
          rotate_left
          · try dsimp only at hSW
            go_simp
            rfl
          simp only [Act.put, List.setIfInBounds_toArray, List.set_cons_zero, List.set_cons_succ]
          refine Late.take 21 (some 102) ?_ rfl rfl (by kernel_rfl) (by kernel_rfl) (by kernel_rfl) (by kernel_rfl) (fun _ _ _ h => h) (by kernel_rfl) (fun W hSW => ?_) hS0 ?_
          rotate_left
          · try dsimp only at hSW
            go_simp
            rfl
          simp only [Act.put, List.setIfInBounds_toArray, List.set_cons_zero, List.set_cons_succ]
          refine Late.take 22 (some 103) ?_ rfl rfl (by kernel_rfl) (by kernel_rfl) (by kernel_rfl) (by kernel_rfl) (fun _ _ _ h => h) (by kernel_rfl) (fun W hSW => ?_) hS0 ?_
          rotate_left
          · try dsimp only at hSW
            go_simp
            rfl
          simp only [Act.put, List.setIfInBounds_toArray, List.set_cons_zero, List.set_cons_succ]
          refine Late.take 23 (some 104) ?_ rfl rfl (by kernel_rfl) (by kernel_rfl) (by kernel_rfl) (by kernel_rfl) (fun _ _ _ h => h) (by kernel_rfl) (fun W hSW => ?_) hS0 ?_
          rotate_left
          · try dsimp only at hSW
            go_simp
            rfl
          simp only [Act.put, List.setIfInBounds_toArray, List.set_cons_zero, List.set_cons_succ]
          refine Late.take 24 (some 105) ?_ rfl rfl (by kernel_rfl) (by kernel_rfl) (by kernel_rfl) (by kernel_rfl) (fun _ _ _ h => h) (by kernel_rfl) (fun W hSW => ?_) hS0 ?_
          rotate_left
          · try dsimp only at hSW
            go_simp
            rfl
          simp only [Act.put, List.setIfInBounds_toArray, List.set_cons_zero, List.set_cons_succ]
          refine Late.ready (rs := [25]) (by kernel_rfl) (by simp) ?_
          refine LateAll.cons rfl (fun K hK => ?_) (LateAll.nil)
          go_simp
          refine hK.out _ _ (HS.out _ (by repeat (first | exact Kept.refl _ | apply Kept.drew | apply Kept.alloc))) (fun hS1 => ?_)
          clear hK K
          refine Late.take 26 (some 107) ?_ rfl rfl (by kernel_rfl) (by kernel_rfl) (by kernel_rfl) (by kernel_rfl) (fun _ _ _ h => h) (by kernel_rfl) (fun W hSW => ?_) hS1 ?_
          rotate_left
          · try dsimp only at hSW
            go_simp
            rfl
          simp only [Act.put, List.setIfInBounds_toArray, List.set_cons_zero, List.set_cons_succ]
          refine Late.ready (rs := [27]) (by kernel_rfl) (by simp) ?_
          refine LateAll.cons rfl (fun K hK => ?_) (LateAll.nil)
          go_simp
          refine hK.out _ _ (by assumption) (fun hS2 => ?_)
          clear hK K
          refine Late.ready (rs := [28]) (by kernel_rfl) (by simp) ?_
          refine LateAll.cons rfl (fun K hK => ?_) (LateAll.nil)
          go_simp
          refine hK.out _ _ (by assumption) (fun hS3 => ?_)
          clear hK K
          refine Late.take 29 (some 110) ?_ rfl rfl (by kernel_rfl) (by kernel_rfl) (by kernel_rfl) (by kernel_rfl) (fun _ _ _ h => h) (by kernel_rfl) (fun W hSW => ?_) hS3 ?_
          rotate_left
          · try dsimp only at hSW
            go_simp
            rfl
          simp only [Act.put, List.setIfInBounds_toArray, List.set_cons_zero, List.set_cons_succ]
          refine Late.ready (rs := [30]) (by kernel_rfl) (by simp) ?_
          refine LateAll.last rfl (fun K hK => ?_)
          go_simp
          refine hK.out _ _ ?_
          clear hK K
          refine Late.done (by kernel_rfl) ?_ _
          generalize hu6 : (World.alloc _ (Obj.cells _ 196)).drew = u6
          obtain ⟨js, hjb, hjp, hk6⟩ := newBlk (fun js => JsL js d1 ∧ js[35]? = some (.slice (some ⟨RB, 0, none⟩) 0 0)) hu6 ⟨⟨rfl, rfl, rfl, rfl, rfl, rfl, rfl⟩, rfl⟩
          have ej : (u5.setCell ⟨LB, 24+2, none⟩ (.iface 168 (.pointer (some ⟨u5.heap.size, 0, none⟩)))).heap.size = u5.heap.size := by simp [World.setCell]
          have hjb : Blk u6 u5.heap.size 196 js := ej ▸ hjb
          have HJB := Lib.hid hjb
          have HJP := Lib.hid hjp
          have nc := HC5.out.apart HL5.out (by decide)
          have no := HO5.out.apart HL5.out (by decide)
          have ng := HG5.out.apart HL5.out (by decide)
          have hset := HL5.out.set (24+2) (.iface 168 (.pointer (some ⟨u5.heap.size, 0, none⟩)))
          have HC6 := Lib.hid ((HC5.out.far (p := ⟨LB, 24+2, none⟩) nc (.iface 168 (.pointer (some ⟨u5.heap.size, 0, none⟩)))).kept hk6)
          have HO6 := Lib.hid ((HO5.out.far (p := ⟨LB, 24+2, none⟩) no (.iface 168 (.pointer (some ⟨u5.heap.size, 0, none⟩)))).kept hk6)
          have HG6 := Lib.hid ((HG5.out.far (p := ⟨LB, 24+2, none⟩) ng (.iface 168 (.pointer (some ⟨u5.heap.size, 0, none⟩)))).kept hk6)
          have HL6 := Lib.hid (hset.kept hk6)
          have KW6 := Lib.hid ((KW5.out.setCell (p := ⟨LB, 24+2, none⟩) HX3.out.lo.1 (.iface 168 (.pointer (some ⟨u5.heap.size, 0, none⟩)))).trans hk6)
          have HF06 := Lib.hid ((HF05.out.far (o := 24+2) HL5.out (by decide) (by decide) (by decide) (.iface 168 (.pointer (some ⟨u5.heap.size, 0, none⟩))) (lcs2 := (lcs.set (24+23) (.bool d1.live)).set (24+2) (.iface 168 (.pointer (some ⟨u5.heap.size, 0, none⟩)))) (gcs2 := gcs) (by rw [List.getElem?_set_ne (by omega)]) rfl).kept hk6)
          clear hu6 ej hjb hjp hk6 nc no ng hset HF05 HC5 HO5 HG5 HL5 KW5 HR5 c10 q0 q1 q4 q5 q6 q7 y2 y2f hLs HS
          generalize u5.heap.size = J at *
          obtain ⟨C8, l8, _, g8, m8⟩ := makeN1 (T := 170) (E := 202) (size := 10) (bytes := 48) Tryd.underlying170 (by kernel_rfl) (by kernel_rfl) 8 (by omega) (by omega)
          have m9 : ∀ w : World, (Instr.makeSlice 170 (.int .i64 8) (.int .i64 8)).run Tryd.prog w = .ok (.slice (some ⟨w.heap.size, 0, none⟩) 8 8) (w.alloc (.cells C8.toArray 202)) := m8
          clear m8 g8
          go_upto_region 22 with fail
          clear m9
          have HS0 : Hid (TSy u6 u6.heap.size (.int .i64 0) (u6.alloc (.cells C8.toArray 202))) := Lib.hid ⟨0, by omega, rfl, (Kept.refl u6).alloc _, C8, Blk.new u6 202 C8, l8, fun i hi => absurd hi (by omega)⟩
          generalize u6.alloc (.cells C8.toArray 202) = u7 at *
          have hsE : ∃ s, s = u6.heap.size := ⟨_, rfl⟩
          obtain ⟨s, hsE⟩ := hsE
          rw [← hsE] at HS0 ⊢
          have HSE := Lib.hid hsE
          clear hsE
          go_loopw [114] (fun t W => TSy u6 s t W) (fun t _ => 8 - (intOf t).toNat)
          case atStart => exact HS0.out
          case round =>
            obtain ⟨j, hj, rfl, hk8, scs, hsb, hsl, hun⟩ := hrel
            obtain ⟨u8, rfl⟩ : ∃ u8 : World, u8 = wr := ⟨_, rfl⟩
            have K8 := Lib.hid hk8
            have HSB := Lib.hid hsb
            have HUN := Lib.hid hun
            clear hk8 hsb hun HS0
            by_cases hj8 : j < 8
            · have j0 : (j : Int) < 8 := by omega
              have i0 := K8.out.cell (KW6.out.cell HI0.out)
              have i1 := K8.out.cell (KW6.out.cell HI1.out)
              obtain ⟨va, a1, a2⟩ := HSB.out.has (i := j * 10 + 2) (by omega)
              obtain ⟨vb, b1, b2⟩ := HSB.out.has (i := j * 10 + 2 + 1) (by omega)
              have HN : Hid (TSy u6 s (.int .i64 ((j : Int) + 1)) ((u8.setCell ⟨s, j * 10 + 2, none⟩ (.int .u32 4294967295)).setCell ⟨s, j * 10 + 2 + 1, none⟩ (.int .u32 4294967295))) := Lib.hid ⟨j + 1, by omega, by go_num, (K8.out.setCell (p := ⟨s, j * 10 + 2, none⟩) (by rw [HSE.out]; exact Nat.le_refl _) _).setCell (p := ⟨s, j * 10 + 2 + 1, none⟩) (by rw [HSE.out]; exact Nat.le_refl _) _, _, (HSB.out.set _ _).set _ _, by simpa using hsl, fun i hi => by
                by_cases e : i = j
                · subst e
                  exact ⟨by rw [List.getElem?_set_ne (by omega), List.getElem?_set_self (by omega)], by rw [List.getElem?_set_self (by rw [List.length_set]; omega)]⟩
                · rw [List.getElem?_set_ne (by omega), List.getElem?_set_ne (by omega), List.getElem?_set_ne (by omega), List.getElem?_set_ne (by omega)]
                  exact HUN.out i (by omega)⟩
              go_wp2_with fail
              go_roundw
              case rel => first | exact HN.out | ((repeat apply Exists.intro); exact ⟨HN.out, rfl⟩)
              case measure => simp [intOf]; omega
            · obtain rfl : j = 8 := by omega
              have c12 : u8.cell? ⟨w.heap.size + 1, 12, none⟩ = some (.slice (some ⟨g, 0, none⟩) 2 2) := by rw [(HC6.out.kept K8.out).cell]; exact HE.out.2.2.1
              have HG8 := Lib.hid (HG6.out.kept K8.out)
              have HJB8 := Lib.hid (HJB.out.kept K8.out)
              have HL8 := Lib.hid (HL6.out.kept K8.out)
              have HSC : Hid (Blk u8 s 202 scs ∧ Unl scs) := Lib.hid ⟨HSB.out, HUN.out⟩
              have HF08 := Lib.hid (HF06.out.kept K8.out)
              obtain ⟨vg, z1, z2⟩ := HG8.out.has (i := 1) (by omega)
              have nl := HL8.out.apart HG8.out (by decide)
              have nc := (HC6.out.kept K8.out).apart HG8.out (by decide)
              have no := (HO6.out.kept K8.out).apart HG8.out (by decide)
              have HN : Hid (Cx w (u8.setCell ⟨g, 1, none⟩ (.slice (some ⟨s, 0, none⟩) 8 8)) (w.heap.size + 1) w.heap.size LB g fmt d0 d1 tg 2) := Lib.hid ⟨(KW6.out.trans K8.out).setCell (p := ⟨g, 1, none⟩) HX3.out.lo.2 _, ⟨ccs, ocs, (HC6.out.kept K8.out).far (p := ⟨g, 1, none⟩) nc _, HE.out.1, HE.out.2.1, HE.out.2.2.1, (HO6.out.kept K8.out).far (p := ⟨g, 1, none⟩) no _, HE.out.2.2.2⟩, HX3.out.lo, _, _, HL8.out.far (p := ⟨g, 1, none⟩) nl _, by simpa using ll, HG8.out.set 1 _, by simpa using gl, fun _ => F0.far HF08.out HG8.out (by decide) (by decide) (by decide) _ rfl (by rw [List.getElem?_set_ne (by omega)]), fun _ => ⟨J, js, by rw [List.getElem?_set_self (by rw [List.length_set]; omega)], by rw [List.getElem?_set_ne (by omega), List.getElem?_set_self (by omega)], HJB8.out.far (p := ⟨g, 1, none⟩) (HJB8.out.apart HG8.out (by decide)) _, HJP.out.1⟩⟩
              clear nl nc no
              go_wp2_with fail
              go_roundw
              case rel => exact ⟨2, by omega, rfl, HN.out⟩
              case measure => simp [intOf]
    · go_wp2_with fail
      go_ret
      exact ⟨_, _, _, _, rfl, HX.out⟩
end Go.Proofs.YtilhckihpgfkfaaDoor.sr
