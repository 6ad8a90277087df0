/-
  shouldRemoveImportExportStmt over the context that the law makes.
  Conditions: the memory is as laid.
-/
import Derived.Test.YtilhckihpgfkfaaDoorSy
import Derived.Test.YtilhckihpgfkfaaDoorSi
import Derived.Test.YtilhckihpgfkfaaDoorSc
namespace Go.Proofs.YtilhckihpgfkfaaDoor.sr
open Go.ChangeShapes Go.WideShapes Go.ChangeAt Go.RowKit
open kit

set_option maxRecDepth 100000 in
set_option maxHeartbeats 8000000 in
theorem extKeep (w : World) (base cb lb LB J0 RB ob g : Nat) (rcs : List Value) (fmt loc ns z cjs ei : Int) (a : Option Addr) (c : Nat) (l : List (Value × Int)) (hM : Mx w cb LB J0 RB ob g rcs fmt z 0 cjs ei)
    (hl : Blk w lb 207 [.slice a l.length c, .slice none 0 0, .slice none 0 0]) (hw : Wk w base 34 2 sc (.slice a l.length c) l) (hn : l.length ≤ 65535) (hf : fmt = 0 ∨ fmt = 3) (hb : base ≤ w.heap.size) :
    Calls Tryd.prog 13 #[.pointer (some ⟨cb, 0, none⟩), .int .u32 0, .pointer (some ⟨lb, 0, none⟩), .agg #[.int .i32 loc], .agg #[.int .u32 0, .int .u32 ns], .int .u32 0] w (Res w base lb (.slice a l.length c) l loc) := by
  have tb : ∀ W : World, (Instr.typeAssert (.iface 168 (.pointer (some ⟨J0, 0, none⟩))) 151 168 false).run Tryd.prog W = .ok (.pointer (some ⟨J0, 0, none⟩)) W := fun W => by kernel_rfl
  obtain ⟨i9, z9, hi, hz0, hz1, hz2, hz3⟩ := info34
  have HM := Lib.hid hM
  have HL := Lib.hid hl
  have HW := Lib.hid hw
  clear hM hl hw
  go_enter Tryd.func13, Tryd.ntmps13
  go_upto_region 1 with fail
  obtain ⟨w1, hw1⟩ : ∃ w1, w1 = (w.alloc (.cells #[.int .i32 loc] 32)).alloc (.cells #[.int .u32 0, .int .u32 ns] 125) := ⟨_, rfl⟩
  have K1 : Hid (Kept w w1) := Lib.hid (by rw [hw1]; exact ((Kept.refl w).alloc _).alloc _)
  have B1 : Hid (Blk w1 w.heap.size 32 [.int .i32 loc]) := Lib.hid (by rw [hw1]; exact (Blk.new w 32 [.int .i32 loc]).alloc _)
  have B2 : Hid (Blk w1 (w.heap.size + 1) 125 [.int .u32 0, .int .u32 ns]) := Lib.hid (by
    rw [hw1]
    have := Blk.new (w.alloc (.cells #[.int .i32 loc] 32)) 125 [.int .u32 0, .int .u32 ns]
    simpa using this)
  rw [← hw1]
  clear hw1
  have HM1 := Lib.hid (HM.out.kept K1.out)
  have c1 := HM1.out.c1
  have c2 := HM1.out.c2
  have c3 := HM1.out.c3
  have c4 := HM1.out.c4
  go_wp2_with fail
  refine (valid 0 false rfl w1).mono ?_
  rintro e w2 ⟨rfl, k2⟩
  have HM2 := Lib.hid (HM1.out.kept k2)
  have K2 := Lib.hid (K1.out.trans k2)
  have c5 := HM2.out.c5
  have c6 := HM2.out.c6
  have B1' := Lib.hid (B1.out.kept k2)
  have B2' := Lib.hid (B2.out.kept k2)
  clear c1 c2 c3 c4 k2 HM1 K1 B1 B2
  go_wp2_with fail
  refine (keeps fmt w2).mono ?_
  rintro e w' ⟨rfl, rfl⟩
  rw [show decide (fmt = 0 ∨ fmt = 3) = true by simp [hf]]
  clear c5 c6
  have HR := Lib.hid (Res.same (loc := loc) false HL.out HW.out K2.out)
  go_wp2_with fail
  go_ret
  exact HR.out

theorem remove (w0 w : World) (cb ob LB g lb : Nat) (fmt loc ei : Int) (cjs external : Bool) (ns : Nat) (wrap : Int) (live async : Bool) (a : Option Addr) (c : Nat) (l : List (Value × Int)) (hX : Cx w0 w cb ob LB g fmt ⟨0, false, true, cjs, 0, 0, ei⟩ ⟨wrap, async, live, false, 1, 7, 0⟩ (if external then -1 else 1) 2)
    (hi0 : w.cell? ⟨0, 0, none⟩ = some (.int .u32 4294967295)) (hi1 : w.cell? ⟨0, 1, none⟩ = some (.int .u32 4294967295)) (hns : ns < 8)
    (hl : Blk w lb 207 [.slice a l.length c, .slice none 0 0, .slice none 0 0]) (hw : Wk w w0.heap.size 34 2 sc (.slice a l.length c) l) (hn : l.length ≤ 65535) (hwr : 0 ≤ wrap ∧ wrap ≤ 2) :
    Calls Tryd.prog 13 #[.pointer (some ⟨cb, 0, none⟩), .int .u32 0, .pointer (some ⟨lb, 0, none⟩), .agg #[.int .i32 loc], .agg #[.int .u32 0, .int .u32 (ns : Int)], .int .u32 0] w (Res w w0.heap.size lb (.slice a l.length c) l loc) := by
  obtain ⟨ccs, ocs, b1, e0, e10, e12, b2, e98⟩ := hX.c
  obtain ⟨lcs, gcs, b3, ll, b4, gl, hf0, hf1⟩ := hX.f
  obtain ⟨J0, RB, s0, js, rcs, scs, f1, f2, f3, ⟨j62, _, _, j48, j49, _, _⟩, f5, f6, f7, f8, f9, f10⟩ := hf0 (by omega)
  obtain ⟨J1, js1, q1, q2, q3, ⟨_, k52, k53, _, _, k11, k10⟩⟩ := hf1 (by omega)
  have hb := hX.kept.size
  have hM : ∀ fl, rcs[10]? = some (.int .u32 fl) → Mx w cb LB J0 RB ob g rcs fmt 0 fl (if cjs then 1 else 0) ei := fun fl h => ⟨by rw [b1.cell]; exact e10, by rw [b3.cell]; exact f1, by rw [f3.cell]; exact f5, f6, h, f8, by rw [b1.cell]; exact e0, by rw [b2.cell]; exact e98, by rw [b1.cell]; exact e12, by rw [f3.cell]; exact j62, by rw [f3.cell]; exact j48, by rw [f3.cell]; exact j49⟩
  cases external
  · exact int_ w w0.heap.size cb lb LB J0 RB ob g s0 J1 rcs fmt loc 0 ei cjs ns wrap live async 1 7 a c l (hM _ f7) ⟨by rw [b3.cell]; exact q1, by rw [b3.cell]; exact q2, by rw [q3.cell]; exact k11, by rw [q3.cell]; exact k10, by rw [q3.cell]; exact k52, by rw [q3.cell]; exact k53⟩ ⟨by rw [b4.cell]; exact f2, fun j hj => ⟨by rw [f9.cell]; exact (f10 j hj).1, by rw [f9.cell]; exact (f10 j hj).2⟩⟩ hi0 hi1 hns hl hw hn hwr hb
  · by_cases hf : fmt = 0 ∨ fmt = 3
    · exact extKeep w w0.heap.size cb lb LB J0 RB ob g rcs fmt loc ns 0 _ ei a c l (hM _ f7) hl hw hn hf hb
    · exact ext w w0.heap.size cb lb LB J0 RB ob g rcs fmt loc ns 0 _ ei a c l (hM _ f7) hl hw hn (by omega) hb
set_option maxRecDepth 100000 in
theorem zzRemove (w : World) (cb lb : Nat) (loc ns : Int) (R : Ending → World → Prop) (h : Calls Tryd.prog 13 #[.pointer (some ⟨cb, 0, none⟩), .int .u32 0, .pointer (some ⟨lb, 0, none⟩), .agg #[.int .i32 loc], .agg #[.int .u32 0, .int .u32 ns], .int .u32 0] w R) (hR : ∀ e w', R e w' → ∃ b, e = .returned (.bool b)) :
    Calls Tryd.prog 8 #[.pointer (some ⟨cb, 0, none⟩), .int .u32 0, .pointer (some ⟨lb, 0, none⟩), .int .i32 loc, .int .u32 0, .int .u32 ns, .int .u32 0] w R := by
  have H := Lib.hid h
  have HR := Lib.hid hR
  clear h hR
  go_enter Tryd.func8, Tryd.ntmps8
  go_wp2_with fail
  refine H.out.mono ?_
  intro e w' hr
  obtain ⟨b, rfl⟩ := HR.out e w' hr
  have HRR := Lib.hid hr
  clear hr H HR
  go_wp2_with fail
  exact HRR.out
end Go.Proofs.YtilhckihpgfkfaaDoor.sr
