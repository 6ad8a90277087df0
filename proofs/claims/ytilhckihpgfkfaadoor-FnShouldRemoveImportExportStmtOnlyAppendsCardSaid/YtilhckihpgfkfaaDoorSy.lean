/-
  shouldRemoveImportExportStmt: an external import becomes a call to require.
  Conditions: the memory is as laid.
-/
import Derived.Test.YtilhckihpgfkfaaDoorSd
namespace Go.Proofs.YtilhckihpgfkfaaDoor.sr
open Go.ChangeShapes Go.WideShapes Go.ChangeAt Go.RowKit
open kit

set_option maxRecDepth 100000 in
set_option maxHeartbeats 8000000 in
theorem ext (w : World) (base cb lb LB J0 RB ob g : Nat) (rcs : List Value) (fmt loc ns z cjs ei : Int) (a : Option Addr) (c : Nat) (l : List (Value × Int)) (hM : Mx w cb LB J0 RB ob g rcs fmt z 0 cjs ei)
    (hl : Blk w lb 207 [.slice a l.length c, .slice none 0 0, .slice none 0 0]) (hw : Wk w base 34 2 sc (.slice a l.length c) l) (hn : l.length ≤ 65535) (hf : fmt ≠ 0 ∧ fmt ≠ 3) (hb : base ≤ w.heap.size) :
    Calls Tryd.prog 13 #[.pointer (some ⟨cb, 0, none⟩), .int .u32 0, .pointer (some ⟨lb, 0, none⟩), .agg #[.int .i32 loc], .agg #[.int .u32 0, .int .u32 ns], .int .u32 0] w (Res w base lb (.slice a l.length c) l loc) := by
  have tb : ∀ W : World, (Instr.typeAssert (.iface 168 (.pointer (some ⟨J0, 0, none⟩))) 151 168 false).run Tryd.prog W = .ok (.pointer (some ⟨J0, 0, none⟩)) W := fun W => by kernel_rfl
  obtain ⟨i9, z9, hi, hz0, hz1, hz2, hz3⟩ := info34
  have HM := Lib.hid hM
  have HL := Lib.hid hl
  have HW := Lib.hid hw
  clear hM hl hw
  go_enter Tryd.func13, Tryd.ntmps13
  go_upto_region 1 with fail
  obtain ⟨w1, hw1⟩ : ∃ w1, w1 = (w.alloc (.cells #[.int .i32 loc] 32)).alloc (.cells #[.int .u32 0, .int .u32 ns] 125) := ⟨_, rfl⟩
  have K1 : Hid (Kept w w1) := Lib.hid (by rw [hw1]; exact ((Kept.refl w).alloc _).alloc _)
  have B1 : Hid (Blk w1 w.heap.size 32 [.int .i32 loc]) := Lib.hid (by rw [hw1]; exact (Blk.new w 32 [.int .i32 loc]).alloc _)
  have B2 : Hid (Blk w1 (w.heap.size + 1) 125 [.int .u32 0, .int .u32 ns]) := Lib.hid (by
    rw [hw1]
    have := Blk.new (w.alloc (.cells #[.int .i32 loc] 32)) 125 [.int .u32 0, .int .u32 ns]
    simpa using this)
  rw [← hw1]
  clear hw1
  have HM1 := Lib.hid (HM.out.kept K1.out)
  have c1 := HM1.out.c1
  have c2 := HM1.out.c2
  have c3 := HM1.out.c3
  have c4 := HM1.out.c4
  go_wp2_with fail
  refine (valid 0 false rfl w1).mono ?_
  rintro e w2 ⟨rfl, k2⟩
  have HM2 := Lib.hid (HM1.out.kept k2)
  have K2 := Lib.hid (K1.out.trans k2)
  have c5 := HM2.out.c5
  have c6 := HM2.out.c6
  have B1' := Lib.hid (B1.out.kept k2)
  have B2' := Lib.hid (B2.out.kept k2)
  clear c1 c2 c3 c4 k2 HM1 K1 B1 B2
  go_wp2_with fail
  refine (keeps fmt w2).mono ?_
  rintro e w' ⟨rfl, rfl⟩
  rw [show decide (fmt = 0 ∨ fmt = 3) = false by simp [hf.1, hf.2]]
  clear c5 c6
  go_upto_region 6 with fail
  have x0 : w2.cell? ⟨lb, 0, none⟩ = some (.slice a l.length c) := (HL.out.kept K2.out).cell 0
  have hlb : lb < w2.heap.size := (HL.out.kept K2.out).lt
  have BR := Lib.hid HM2.out.rb
  have R7 := Lib.hid HM2.out.r7
  have n1 : w.heap.size ≠ lb := B1'.out.apart (HL.out.kept K2.out) (by decide)
  have n2 : w.heap.size + 1 ≠ lb := B2'.out.apart (HL.out.kept K2.out) (by decide)
  have n3 : RB ≠ lb := BR.out.apart (HL.out.kept K2.out) (by decide)
  have HSB := Lib.hid (fun (W : World) (h1 : Blk W w.heap.size 32 [.int .i32 loc]) (h2 : Blk W (w.heap.size + 1) 125 [.int .u32 0, .int .u32 ns]) (h3 : Blk W RB 145 rcs) => (show W.cell? ⟨w.heap.size, 0, none⟩ = some (.int .i32 loc) ∧ W.cell? ⟨w.heap.size + 1, 0, none⟩ = some (.int .u32 0) ∧ W.cell? ⟨w.heap.size + 1, 1, none⟩ = some (.int .u32 ns) ∧ W.cell? ⟨RB, 7, none⟩ = some (.int .i32 z) from ⟨h1.cell 0, h2.cell 0, h2.cell 1, (h3.cell 7).trans R7.out⟩))
  have HS := Lib.hid (fun (W : World) (k : Kept w2 W) => And.intro (k.cell x0) (HSB.out W (B1'.out.kept k) (B2'.out.kept k) (BR.out.kept k)))
  have HS6 := Lib.hid (fun (W6 W : World) (k : Kept w2 W) (hg : W.grownBy W6 (Value.ownBlock (.slice a l.length c))) (u : Value) =>
    (show (Blk W6 w.heap.size 32 [.int .i32 loc] ∧ Blk W6 (w.heap.size + 1) 125 [.int .u32 0, .int .u32 ns] ∧ Blk W6 RB 145 rcs) from
      ⟨(B1'.out.kept k).grown hg (fun e => (B1'.out.kept k).notOwned (own_kept HW.out.2 (K2.out.trans k)) (by decide) e.symm), (B2'.out.kept k).grown hg (fun e => (B2'.out.kept k).notOwned (own_kept HW.out.2 (K2.out.trans k)) (by decide) e.symm), (BR.out.kept k).grown hg (fun e => (BR.out.kept k).notOwned (own_kept HW.out.2 (K2.out.trans k)) (by decide) e.symm)⟩))
  have HT6 := Lib.hid (fun (W6 W : World) (k : Kept w2 W) (hg : W.grownBy W6 (Value.ownBlock (.slice a l.length c))) => (show W6.cell? ⟨w.heap.size, 0, none⟩ = some (.int .i32 loc) ∧ W6.cell? ⟨w.heap.size + 1, 0, none⟩ = some (.int .u32 0) ∧ W6.cell? ⟨w.heap.size + 1, 1, none⟩ = some (.int .u32 ns) ∧ W6.cell? ⟨RB, 7, none⟩ = some (.int .i32 z) from HSB.out W6 (HS6.out W6 W k hg (.pointer none)).1 (HS6.out W6 W k hg (.pointer none)).2.1 (HS6.out W6 W k hg (.pointer none)).2.2))
  have HT7 := Lib.hid (fun (W6 W : World) (k : Kept w2 W) (hg : W.grownBy W6 (Value.ownBlock (.slice a l.length c))) (u : Value) => (show (W6.setCell ⟨lb, 0, none⟩ u).cell? ⟨w.heap.size, 0, none⟩ = some (.int .i32 loc) ∧ (W6.setCell ⟨lb, 0, none⟩ u).cell? ⟨w.heap.size + 1, 0, none⟩ = some (.int .u32 0) ∧ (W6.setCell ⟨lb, 0, none⟩ u).cell? ⟨w.heap.size + 1, 1, none⟩ = some (.int .u32 ns) ∧ (W6.setCell ⟨lb, 0, none⟩ u).cell? ⟨RB, 7, none⟩ = some (.int .i32 z) from HSB.out _ ((HS6.out W6 W k hg u).1.far (p := ⟨lb, 0, none⟩) n1 u) ((HS6.out W6 W k hg u).2.1.far (p := ⟨lb, 0, none⟩) n2 u) ((HS6.out W6 W k hg u).2.2.far (p := ⟨lb, 0, none⟩) n3 u)))
  have HTT := HT7.out
  refine Late.region (S := (fun W => W.cell? ⟨lb, 0, none⟩ = some (.slice a l.length c) ∧ W.cell? ⟨w.heap.size, 0, none⟩ = some (.int .i32 loc) ∧ W.cell? ⟨w.heap.size + 1, 0, none⟩ = some (.int .u32 0) ∧ W.cell? ⟨w.heap.size + 1, 1, none⟩ = some (.int .u32 ns) ∧ W.cell? ⟨RB, 7, none⟩ = some (.int .i32 z))) 32 (by kernel_rfl) (HS.out w2.drew ((Kept.refl w2).drew)) (fun hS0 => ?_)
  refine Late.take 0 (some 50) ?_ rfl rfl (by kernel_rfl) (by kernel_rfl) (by kernel_rfl) (by kernel_rfl) (fun _ _ _ h => h) (by kernel_rfl) (fun W hSW => ?_) hS0 ?_
  rotate_left
  · try dsimp only at hSW
    go_simp
    rfl
  simp only [Act.put, List.setIfInBounds_toArray, List.set_cons_zero, List.set_cons_succ]
  refine Late.take 1 (some 51) ?_ rfl rfl (by kernel_rfl) (by kernel_rfl) (by kernel_rfl) (by kernel_rfl) (fun _ _ _ h => h) (by kernel_rfl) (fun W hSW => ?_) hS0 ?_
  rotate_left
  · try dsimp only at hSW
    go_simp
    rfl
  simp only [Act.put, List.setIfInBounds_toArray, List.set_cons_zero, List.set_cons_succ]
  refine Late.take 2 (some 52) ?_ rfl rfl (by kernel_rfl) (by kernel_rfl) (by kernel_rfl) (by kernel_rfl) (fun _ _ _ h => h) (by kernel_rfl) (fun W hSW => ?_) hS0 ?_
  rotate_left
  · try dsimp only at hSW
    go_simp
    rfl
  simp only [Act.put, List.setIfInBounds_toArray, List.set_cons_zero, List.set_cons_succ]
  refine Late.take 3 (some 53) ?_ rfl rfl (by kernel_rfl) (by kernel_rfl) (by kernel_rfl) (by kernel_rfl) (fun _ _ _ h => h) (by kernel_rfl) (fun W hSW => ?_) hS0 ?_
  rotate_left
  · try dsimp only at hSW
    go_simp
    rfl
  simp only [Act.put, List.setIfInBounds_toArray, List.set_cons_zero, List.set_cons_succ]
  refine Late.take 4 (some 54) ?_ rfl rfl (by kernel_rfl) (by kernel_rfl) (by kernel_rfl) (by kernel_rfl) (fun _ _ _ h => h) (by kernel_rfl) (fun W hSW => ?_) hS0 ?_
  rotate_left
  · try dsimp only at hSW
    go_simp
    rfl
  simp only [Act.put, List.setIfInBounds_toArray, List.set_cons_zero, List.set_cons_succ]
  refine Late.take 5 (some 55) ?_ rfl rfl (by kernel_rfl) (by kernel_rfl) (by kernel_rfl) (by kernel_rfl) (fun _ _ _ h => h) (by kernel_rfl) (fun W hSW => ?_) hS0 ?_
  rotate_left
  · try dsimp only at hSW
    go_simp
    rfl
  simp only [Act.put, List.setIfInBounds_toArray, List.set_cons_zero, List.set_cons_succ]
  refine Late.take 6 (some 56) ?_ rfl rfl (by kernel_rfl) (by kernel_rfl) (by kernel_rfl) (by kernel_rfl) (fun _ _ _ h => h) (by kernel_rfl) (fun W hSW => ?_) hS0 ?_
  rotate_left
  · try dsimp only at hSW
    go_simp
    rfl
  simp only [Act.put, List.setIfInBounds_toArray, List.set_cons_zero, List.set_cons_succ]
  refine Late.take 7 (some 57) ?_ rfl rfl (by kernel_rfl) (by kernel_rfl) (by kernel_rfl) (by kernel_rfl) (fun _ _ _ h => h) (by kernel_rfl) (fun W hSW => ?_) hS0 ?_
  rotate_left
  · try dsimp only at hSW
    go_simp
    rfl
  simp only [Act.put, List.setIfInBounds_toArray, List.set_cons_zero, List.set_cons_succ]
  refine Late.take 8 (some 58) ?_ rfl rfl (by kernel_rfl) (by kernel_rfl) (by kernel_rfl) (by kernel_rfl) (fun _ _ _ h => h) (by kernel_rfl) (fun W hSW => ?_) hS0 ?_
  rotate_left
  · try dsimp only at hSW
    go_simp
    rfl
  simp only [Act.put, List.setIfInBounds_toArray, List.set_cons_zero, List.set_cons_succ]
  refine Late.take 12 (some 62) ?_ rfl rfl (by kernel_rfl) (by kernel_rfl) (by kernel_rfl) (by kernel_rfl) (fun _ _ _ h => h) (by kernel_rfl) (fun W hSW => ?_) hS0 ?_
  rotate_left
  · try dsimp only at hSW
    go_simp
    rfl
  simp only [Act.put, List.setIfInBounds_toArray, List.set_cons_zero, List.set_cons_succ]
  refine Late.take 13 (some 63) ?_ rfl rfl (by kernel_rfl) (by kernel_rfl) (by kernel_rfl) (by kernel_rfl) (fun _ _ _ h => h) (by kernel_rfl) (fun W hSW => ?_) hS0 ?_
  rotate_left
  · try dsimp only at hSW
    go_simp
    rfl
  simp only [Act.put, List.setIfInBounds_toArray, List.set_cons_zero, List.set_cons_succ]
  refine Late.take 14 (some 64) ?_ rfl rfl (by kernel_rfl) (by kernel_rfl) (by kernel_rfl) (by kernel_rfl) (fun _ _ _ h => h) (by kernel_rfl) (fun W hSW => ?_) hS0 ?_
  rotate_left
  · try dsimp only at hSW
    go_simp
    rfl
  simp only [Act.put, List.setIfInBounds_toArray, List.set_cons_zero, List.set_cons_succ]
  refine Late.take 15 (some 65) ?_ rfl rfl (by kernel_rfl) (by kernel_rfl) (by kernel_rfl) (by kernel_rfl) (fun _ _ _ h => h) (by kernel_rfl) (fun W hSW => ?_) hS0 ?_
  rotate_left
  · try dsimp only at hSW
    go_simp
    rfl
  simp only [Act.put, List.setIfInBounds_toArray, List.set_cons_zero, List.set_cons_succ]
  refine Late.take 16 (some 66) ?_ rfl rfl (by kernel_rfl) (by kernel_rfl) (by kernel_rfl) (by kernel_rfl) (fun _ _ _ h => h) (by kernel_rfl) (fun W hSW => ?_) hS0 ?_
  rotate_left
  · try dsimp only at hSW
    go_simp
    rfl
  simp only [Act.put, List.setIfInBounds_toArray, List.set_cons_zero, List.set_cons_succ]
  refine Late.take 17 (some 67) ?_ rfl rfl (by kernel_rfl) (by kernel_rfl) (by kernel_rfl) (by kernel_rfl) (fun _ _ _ h => h) (by kernel_rfl) (fun W hSW => ?_) hS0 ?_
  rotate_left
  · try dsimp only at hSW
    go_simp
    rfl
  simp only [Act.put, List.setIfInBounds_toArray, List.set_cons_zero, List.set_cons_succ]
  refine Late.take 18 (some 68) ?_ rfl rfl (by kernel_rfl) (by kernel_rfl) (by kernel_rfl) (by kernel_rfl) (fun _ _ _ h => h) (by kernel_rfl) (fun W hSW => ?_) hS0 ?_
  rotate_left
  · try dsimp only at hSW
    go_simp
    rfl
  simp only [Act.put, List.setIfInBounds_toArray, List.set_cons_zero, List.set_cons_succ]
  refine Late.ready (rs := [9, 19]) (by kernel_rfl) (by simp) ?_
  refine LateAll.cons rfl (fun K hK => ?_) (LateAll.cons rfl (fun K hK => ?_) (LateAll.nil))
  · skip
    go_simp
    refine hK.out _ _ (HS.out _ (by repeat (first | exact Kept.refl _ | apply Kept.drew | apply Kept.alloc))) (fun hS1 => ?_)
    clear hK K
    refine Late.take 10 (some 60) ?_ rfl rfl (by kernel_rfl) (by kernel_rfl) (by kernel_rfl) (by kernel_rfl) (fun _ _ _ h => h) (by kernel_rfl) (fun W hSW => ?_) hS1 ?_
    rotate_left
    · try dsimp only at hSW
      go_simp
      rfl
    simp only [Act.put, List.setIfInBounds_toArray, List.set_cons_zero, List.set_cons_succ]
    refine Late.take 11 (some 61) ?_ rfl rfl (by kernel_rfl) (by kernel_rfl) (by kernel_rfl) (by kernel_rfl) (fun _ _ _ h => h) (by kernel_rfl) (fun W hSW => ?_) hS1 ?_
    rotate_left
    · try dsimp only at hSW
      go_simp
      rfl
    simp only [Act.put, List.setIfInBounds_toArray, List.set_cons_zero, List.set_cons_succ]
    refine Late.ready (rs := [19]) (by kernel_rfl) (by simp) ?_
    refine LateAll.cons rfl (fun K hK => ?_) (LateAll.nil)
    go_simp
    refine hK.out _ _ (HS.out _ (by repeat (first | exact Kept.refl _ | apply Kept.drew | apply Kept.alloc))) (fun hS2 => ?_)
    clear hK K
    refine Late.take 20 (some 70) ?_ rfl rfl (by kernel_rfl) (by kernel_rfl) (by kernel_rfl) (by kernel_rfl) (fun _ _ _ h => h) (by kernel_rfl) (fun W hSW => ?_) hS2 ?_
    rotate_left
    · try dsimp only at hSW
      go_simp
      rfl
    simp only [Act.put, List.setIfInBounds_toArray, List.set_cons_zero, List.set_cons_succ]
    refine Late.take 21 (some 71) ?_ rfl rfl (by kernel_rfl) (by kernel_rfl) (by kernel_rfl) (by kernel_rfl) (fun _ _ _ h => h) (by kernel_rfl) (fun W hSW => ?_) hS2 ?_
    rotate_left
    · try dsimp only at hSW
      go_simp
      rfl
    simp only [Act.put, List.setIfInBounds_toArray, List.set_cons_zero, List.set_cons_succ]
    refine Late.take 22 (some 72) ?_ rfl rfl (by kernel_rfl) (by kernel_rfl) (by kernel_rfl) (by kernel_rfl) (fun _ _ _ h => h) (by kernel_rfl) (fun W hSW => ?_) hS2 ?_
    rotate_left
    · try dsimp only at hSW
      go_simp
      rfl
    simp only [Act.put, List.setIfInBounds_toArray, List.set_cons_zero, List.set_cons_succ]
    refine Late.ready (rs := [23]) (by kernel_rfl) (by simp) ?_
    refine LateAll.cons rfl (fun K hK => ?_) (LateAll.nil)
    go_simp
    refine hK.out _ _ (HS.out _ (by repeat (first | exact Kept.refl _ | apply Kept.drew | apply Kept.alloc))) (fun hS3 => ?_)
    clear hK K
    refine Late.take 24 (some 74) ?_ rfl rfl (by kernel_rfl) (by kernel_rfl) (by kernel_rfl) (by kernel_rfl) (fun _ _ _ h => h) (by kernel_rfl) (fun W hSW => ?_) hS3 ?_
    rotate_left
    · try dsimp only at hSW
      go_simp
      rfl
    simp only [Act.put, List.setIfInBounds_toArray, List.set_cons_zero, List.set_cons_succ]
    refine Late.ready (rs := [25]) (by kernel_rfl) (by simp) ?_
    refine LateAll.cons rfl (fun K hK => ?_) (LateAll.nil)
    go_simp
    refine hK.out _ _ (HS.out _ (by repeat (first | exact Kept.refl _ | apply Kept.drew | apply Kept.alloc))) (fun hS4 => ?_)
    clear hK K
    refine Late.take 26 (some 76) ?_ rfl rfl (by kernel_rfl) (by kernel_rfl) (by kernel_rfl) (by kernel_rfl) (fun _ _ _ h => h) (by kernel_rfl) (fun W hSW => ?_) hS4 ?_
    rotate_left
    · try dsimp only at hSW
      go_simp
      rfl
    simp only [Act.put, List.setIfInBounds_toArray, List.set_cons_zero, List.set_cons_succ]
    refine Late.take 27 (some 77) ?_ rfl rfl (by kernel_rfl) (by kernel_rfl) (by kernel_rfl) (by kernel_rfl) (fun _ _ _ h => h) (by kernel_rfl) (fun W hSW => ?_) hS4 ?_
    rotate_left
    · try dsimp only at hSW
      go_simp
      rfl
    simp only [Act.put, List.setIfInBounds_toArray, List.set_cons_zero, List.set_cons_succ]
    refine Late.ready (rs := [28]) (by kernel_rfl) (by simp) ?_
    refine LateAll.cons rfl (fun K hK => ?_) (LateAll.nil)
    go_simp
    refine hK.out _ _ (HS.out _ (by repeat (first | exact Kept.refl _ | apply Kept.drew | apply Kept.alloc))) (fun hS5 => ?_)
    clear hK K
    refine Late.ready (rs := [29]) (by kernel_rfl) (by simp) ?_
    refine LateAll.cons rfl (fun K hK => ?_) (LateAll.nil)
    refine step_append_lies _ (by rfl) _ _ _ (by rfl) base 34 i9 z9 2 24 Tryd.underlying28 hi hz0 hz2 hz3 hz1 (by decide) (.slice a l.length c) l.length _ (by rfl) (own_kept HW.out.2 (by repeat (first | exact K2.out | apply Kept.drew | apply Kept.alloc))) ⟨_, 0, none⟩ 1 1 [_, .int .i32 loc] (by rfl) (by rfl) (newsE _ _ 34 _ (by simp)) (by simp [Value.oneCell']) (by decide) (by unfold maxLen; omega) (by omega) (Nat.le_trans hb (Kept.size (w := w) (by repeat (first | exact K2.out | apply Kept.drew | apply Kept.alloc)))) _ (by rfl) ?_
    intro g6 c6 w6 hown6 hg6 hat6 hlt6
    obtain ⟨⟨y0, y1⟩, hres⟩ := pushed (by repeat (first | exact K2.out | apply Kept.drew | apply Kept.alloc)) HL.out HW.out hown6 hg6
    have HRS := Lib.hid hres
    refine hK.out _ _ ⟨y0, HT6.out w6 _ (by repeat (first | exact Kept.refl _ | apply Kept.drew | apply Kept.alloc)) hg6⟩ (fun hS6 => ?_)
    clear hres hown6 hg6 hat6 hlt6 hK K
    simp only [Act.put, List.setIfInBounds_toArray, List.set_cons_zero, List.set_cons_succ]
    refine Late.ready (rs := [30]) (by kernel_rfl) (by simp) ?_
    refine LateAll.cons rfl (fun K hK => ?_) (LateAll.nil)
    go_simp
    refine hK.out _ _ (by assumption) (fun hS7 => ?_)
    clear hK K
    refine Late.take 31 (some 81) ?_ rfl rfl (by kernel_rfl) (by kernel_rfl) (by kernel_rfl) (by kernel_rfl) (fun _ _ _ h => h) (by kernel_rfl) (fun W hSW => ?_) hS7 ?_
    rotate_left
    · try dsimp only at hSW
      go_simp
      rfl
    simp only [Act.put, List.setIfInBounds_toArray, List.set_cons_zero, List.set_cons_succ]
    refine Late.ready (rs := [32]) (by kernel_rfl) (by simp) ?_
    refine LateAll.last rfl (fun K hK => ?_)
    go_simp
    refine hK.out _ _ ?_
    clear hK K
    refine Late.done (by kernel_rfl) ?_ _
    (go_wp2_with fail; go_ret; exact HRS.out)
  · skip
    go_simp
    refine hK.out _ _ (HS.out _ (by repeat (first | exact Kept.refl _ | apply Kept.drew | apply Kept.alloc))) (fun hS8 => ?_)
    clear hK K
    refine Late.take 20 (some 70) ?_ rfl rfl (by kernel_rfl) (by kernel_rfl) (by kernel_rfl) (by kernel_rfl) (fun _ _ _ h => h) (by kernel_rfl) (fun W hSW => ?_) hS8 ?_
    rotate_left
    · try dsimp only at hSW
      go_simp
      rfl
    simp only [Act.put, List.setIfInBounds_toArray, List.set_cons_zero, List.set_cons_succ]
    refine Late.take 21 (some 71) ?_ rfl rfl (by kernel_rfl) (by kernel_rfl) (by kernel_rfl) (by kernel_rfl) (fun _ _ _ h => h) (by kernel_rfl) (fun W hSW => ?_) hS8 ?_
    rotate_left
    · try dsimp only at hSW
      go_simp
      rfl
    simp only [Act.put, List.setIfInBounds_toArray, List.set_cons_zero, List.set_cons_succ]
    refine Late.ready (rs := [9]) (by kernel_rfl) (by simp) ?_
    refine LateAll.cons rfl (fun K hK => ?_) (LateAll.nil)
    go_simp
    refine hK.out _ _ (HS.out _ (by repeat (first | exact Kept.refl _ | apply Kept.drew | apply Kept.alloc))) (fun hS9 => ?_)
    clear hK K
    refine Late.take 10 (some 60) ?_ rfl rfl (by kernel_rfl) (by kernel_rfl) (by kernel_rfl) (by kernel_rfl) (fun _ _ _ h => h) (by kernel_rfl) (fun W hSW => ?_) hS9 ?_
    rotate_left
    · try dsimp only at hSW
      go_simp
      rfl
    simp only [Act.put, List.setIfInBounds_toArray, List.set_cons_zero, List.set_cons_succ]
    refine Late.take 11 (some 61) ?_ rfl rfl (by kernel_rfl) (by kernel_rfl) (by kernel_rfl) (by kernel_rfl) (fun _ _ _ h => h) (by kernel_rfl) (fun W hSW => ?_) hS9 ?_
    rotate_left
    · try dsimp only at hSW
      go_simp
      rfl
    simp only [Act.put, List.setIfInBounds_toArray, List.set_cons_zero, List.set_cons_succ]
    refine Late.take 22 (some 72) ?_ rfl rfl (by kernel_rfl) (by kernel_rfl) (by kernel_rfl) (by kernel_rfl) (fun _ _ _ h => h) (by kernel_rfl) (fun W hSW => ?_) hS9 ?_
    rotate_left
    · try dsimp only at hSW
      go_simp
      rfl
    simp only [Act.put, List.setIfInBounds_toArray, List.set_cons_zero, List.set_cons_succ]
    refine Late.ready (rs := [23]) (by kernel_rfl) (by simp) ?_
    refine LateAll.cons rfl (fun K hK => ?_) (LateAll.nil)
    go_simp
    refine hK.out _ _ (HS.out _ (by repeat (first | exact Kept.refl _ | apply Kept.drew | apply Kept.alloc))) (fun hS10 => ?_)
    clear hK K
    refine Late.take 24 (some 74) ?_ rfl rfl (by kernel_rfl) (by kernel_rfl) (by kernel_rfl) (by kernel_rfl) (fun _ _ _ h => h) (by kernel_rfl) (fun W hSW => ?_) hS10 ?_
    rotate_left
    · try dsimp only at hSW
      go_simp
      rfl
    simp only [Act.put, List.setIfInBounds_toArray, List.set_cons_zero, List.set_cons_succ]
    refine Late.ready (rs := [25]) (by kernel_rfl) (by simp) ?_
    refine LateAll.cons rfl (fun K hK => ?_) (LateAll.nil)
    go_simp
    refine hK.out _ _ (HS.out _ (by repeat (first | exact Kept.refl _ | apply Kept.drew | apply Kept.alloc))) (fun hS11 => ?_)
    clear hK K
    refine Late.take 26 (some 76) ?_ rfl rfl (by kernel_rfl) (by kernel_rfl) (by kernel_rfl) (by kernel_rfl) (fun _ _ _ h => h) (by kernel_rfl) (fun W hSW => ?_) hS11 ?_
    rotate_left
    · try dsimp only at hSW
      go_simp
      rfl
    simp only [Act.put, List.setIfInBounds_toArray, List.set_cons_zero, List.set_cons_succ]
    refine Late.take 27 (some 77) ?_ rfl rfl (by kernel_rfl) (by kernel_rfl) (by kernel_rfl) (by kernel_rfl) (fun _ _ _ h => h) (by kernel_rfl) (fun W hSW => ?_) hS11 ?_
    rotate_left
    · try dsimp only at hSW
      go_simp
      rfl
    simp only [Act.put, List.setIfInBounds_toArray, List.set_cons_zero, List.set_cons_succ]
    refine Late.ready (rs := [28]) (by kernel_rfl) (by simp) ?_
    refine LateAll.cons rfl (fun K hK => ?_) (LateAll.nil)
    go_simp
    refine hK.out _ _ (HS.out _ (by repeat (first | exact Kept.refl _ | apply Kept.drew | apply Kept.alloc))) (fun hS12 => ?_)
    clear hK K
    refine Late.ready (rs := [29]) (by kernel_rfl) (by simp) ?_
    refine LateAll.cons rfl (fun K hK => ?_) (LateAll.nil)
    refine step_append_lies _ (by rfl) _ _ _ (by rfl) base 34 i9 z9 2 24 Tryd.underlying28 hi hz0 hz2 hz3 hz1 (by decide) (.slice a l.length c) l.length _ (by rfl) (own_kept HW.out.2 (by repeat (first | exact K2.out | apply Kept.drew | apply Kept.alloc))) ⟨_, 0, none⟩ 1 1 [_, .int .i32 loc] (by rfl) (by rfl) (newsE _ _ 34 _ (by simp)) (by simp [Value.oneCell']) (by decide) (by unfold maxLen; omega) (by omega) (Nat.le_trans hb (Kept.size (w := w) (by repeat (first | exact K2.out | apply Kept.drew | apply Kept.alloc)))) _ (by rfl) ?_
    intro g6 c6 w6 hown6 hg6 hat6 hlt6
    obtain ⟨⟨y0, y1⟩, hres⟩ := pushed (by repeat (first | exact K2.out | apply Kept.drew | apply Kept.alloc)) HL.out HW.out hown6 hg6
    have HRS := Lib.hid hres
    refine hK.out _ _ ⟨y0, HT6.out w6 _ (by repeat (first | exact Kept.refl _ | apply Kept.drew | apply Kept.alloc)) hg6⟩ (fun hS13 => ?_)
    clear hres hown6 hg6 hat6 hlt6 hK K
    simp only [Act.put, List.setIfInBounds_toArray, List.set_cons_zero, List.set_cons_succ]
    refine Late.ready (rs := [30]) (by kernel_rfl) (by simp) ?_
    refine LateAll.cons rfl (fun K hK => ?_) (LateAll.nil)
    go_simp
    refine hK.out _ _ (by assumption) (fun hS14 => ?_)
    clear hK K
    refine Late.take 31 (some 81) ?_ rfl rfl (by kernel_rfl) (by kernel_rfl) (by kernel_rfl) (by kernel_rfl) (fun _ _ _ h => h) (by kernel_rfl) (fun W hSW => ?_) hS14 ?_
    rotate_left
    · try dsimp only at hSW
      go_simp
      rfl
    simp only [Act.put, List.setIfInBounds_toArray, List.set_cons_zero, List.set_cons_succ]
    refine Late.ready (rs := [32]) (by kernel_rfl) (by simp) ?_
    refine LateAll.last rfl (fun K hK => ?_)
    go_simp
    refine hK.out _ _ ?_
    clear hK K
    refine Late.done (by kernel_rfl) ?_ _
    (go_wp2_with fail; go_ret; exact HRS.out)
end Go.Proofs.YtilhckihpgfkfaaDoor.sr
