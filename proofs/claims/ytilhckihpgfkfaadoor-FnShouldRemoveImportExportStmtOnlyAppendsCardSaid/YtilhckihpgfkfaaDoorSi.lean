/-
  shouldRemoveImportExportStmt at an import of the other file.
  Conditions: the memory is as laid.
-/
import Derived.Test.YtilhckihpgfkfaaDoorSd
namespace Go.Proofs.YtilhckihpgfkfaaDoor.sr
open Go.ChangeShapes Go.WideShapes Go.ChangeAt Go.RowKit
open kit

/-- the value in its own variable -/
def T17 (w5 : World) (loc : Int) (t17 : Value) (W : World) : Prop := ∃ q T p, t17 = .pointer (some ⟨q, 0, none⟩) ∧ Blk W q 175 [.iface T (.pointer (some p)), .int .i32 loc] ∧ Kept w5 W ∧ w5.heap.size ≤ q
def SomeBool (t : Value) : Prop := ∃ b, t = .bool b
set_option maxRecDepth 100000 in
set_option maxHeartbeats 8000000 in
theorem int_ (w : World) (base cb lb LB J0 RB ob g s0 J1 : Nat) (rcs : List Value) (fmt loc z ei : Int) (cjs : Bool) (ns : Nat) (wrap : Int) (live async : Bool) (r0 r1 : Int) (a : Option Addr) (c : Nat) (l : List (Value × Int)) (hM : Mx w cb LB J0 RB ob g rcs fmt z 4294967294 (if cjs then 1 else 0) ei) (hO : Mo w LB J1 wrap live async r0 r1) (hY : Sy w g s0)
    (hi0 : w.cell? ⟨0, 0, none⟩ = some (.int .u32 4294967295)) (hi1 : w.cell? ⟨0, 1, none⟩ = some (.int .u32 4294967295)) (hns : ns < 8)
    (hl : Blk w lb 207 [.slice a l.length c, .slice none 0 0, .slice none 0 0]) (hw : Wk w base 34 2 sc (.slice a l.length c) l) (hn : l.length ≤ 65535) (hwr : 0 ≤ wrap ∧ wrap ≤ 2) (hb : base ≤ w.heap.size) :
    Calls Tryd.prog 13 #[.pointer (some ⟨cb, 0, none⟩), .int .u32 0, .pointer (some ⟨lb, 0, none⟩), .agg #[.int .i32 loc], .agg #[.int .u32 0, .int .u32 (ns : Int)], .int .u32 0] w (Res w base lb (.slice a l.length c) l loc) := by
  have tb : ∀ W : World, (Instr.typeAssert (.iface 168 (.pointer (some ⟨J0, 0, none⟩))) 151 168 false).run Tryd.prog W = .ok (.pointer (some ⟨J0, 0, none⟩)) W := fun W => by kernel_rfl
  have tc : ∀ W : World, (Instr.typeAssert (.iface 168 (.pointer (some ⟨J1, 0, none⟩))) 151 168 false).run Tryd.prog W = .ok (.pointer (some ⟨J1, 0, none⟩)) W := fun W => by kernel_rfl
  have TC := Lib.hid tc
  obtain ⟨i9, z9, hi, hz0, hz1, hz2, hz3⟩ := info34
  have HM := Lib.hid hM
  have HO := Lib.hid hO
  have HY := Lib.hid hY
  have HI0 := Lib.hid hi0
  have HI1 := Lib.hid hi1
  have HL := Lib.hid hl
  have HW := Lib.hid hw
  clear hM hO hY hi0 hi1 hl hw tc
  go_enter Tryd.func13, Tryd.ntmps13
  go_upto_region 1 with fail
  obtain ⟨w1, hw1⟩ : ∃ w1, w1 = (w.alloc (.cells #[.int .i32 loc] 32)).alloc (.cells #[.int .u32 0, .int .u32 (ns : Int)] 125) := ⟨_, rfl⟩
  have K1 : Hid (Kept w w1) := Lib.hid (by rw [hw1]; exact ((Kept.refl w).alloc _).alloc _)
  have B1 : Hid (Blk w1 w.heap.size 32 [.int .i32 loc]) := Lib.hid (by rw [hw1]; exact (Blk.new w 32 [.int .i32 loc]).alloc _)
  have B2 : Hid (Blk w1 (w.heap.size + 1) 125 [.int .u32 0, .int .u32 (ns : Int)]) := Lib.hid (by
    rw [hw1]
    have := Blk.new (w.alloc (.cells #[.int .i32 loc] 32)) 125 [.int .u32 0, .int .u32 (ns : Int)]
    simpa using this)
  rw [← hw1]
  clear hw1
  have HM1 := Lib.hid (HM.out.kept K1.out)
  have c1 := HM1.out.c1
  have c2 := HM1.out.c2
  have c3 := HM1.out.c3
  have c4 := HM1.out.c4
  go_wp2_with fail
  refine (valid 4294967294 true rfl w1).mono ?_
  rintro e w2 ⟨rfl, k2⟩
  have HM2 := Lib.hid (HM1.out.kept k2)
  have K2 := Lib.hid (K1.out.trans k2)
  have B1' := Lib.hid (B1.out.kept k2)
  have B2' := Lib.hid (B2.out.kept k2)
  clear c1 c2 c3 c4 k2 HM1 K1 B1 B2 tb
  go_upto_if 102 with (fail)
  go_cut [102] (fun t W => Hid (Kept w2 W) ∧ SomeBool t)
  case first =>
    have c9 := HM2.out.c9
    cases cjs
    · simp only [Bool.false_eq_true, if_false] at c9
      go_upto_region 8 with fail
      go_quiet (fail)
      go_wp2_with fail
      go_meet
      exact ⟨Lib.hid ((Kept.refl w2).drewN _), _, rfl⟩
    · simp only [if_true] at c9
      have c8 := HM2.out.c8
      have cA := HM2.out.cA
      have cB := HM2.out.cB
      have x2 : w2.cell? ⟨w.heap.size + 1, 0, none⟩ = some (.int .u32 0) := B2'.out.cell 0
      have x3 : w2.cell? ⟨w.heap.size + 1, 1, none⟩ = some (.int .u32 (ns : Int)) := B2'.out.cell 1
      have heq := fun W => eqR W 0 (ns : Int) 0 ei
      have HF := Lib.hid (fun (W : World) (k : Kept w2 W) => follow W g s0 ns (HY.out.kept (K2.out.trans k)) hns ((K2.out.trans k).cell HI0.out) ((K2.out.trans k).cell HI1.out))
      have HS := Lib.hid (fun (W : World) (k : Kept w2 W) => (show W.cell? ⟨J0, 62, none⟩ = some (.int .u8 1) ∧ W.cell? ⟨cb, 12, none⟩ = some (.slice (some ⟨g, 0, none⟩) 2 2) ∧ W.cell? ⟨J0, 48, none⟩ = some (.int .u32 0) ∧ W.cell? ⟨J0, 49, none⟩ = some (.int .u32 ei) ∧ W.cell? ⟨w.heap.size + 1, 0, none⟩ = some (.int .u32 0) ∧ W.cell? ⟨w.heap.size + 1, 1, none⟩ = some (.int .u32 (ns : Int)) from ⟨k.cell c9, k.cell c8, k.cell cA, k.cell cB, k.cell x2, k.cell x3⟩))
      go_upto_region 8 with fail
      go_region_held3 (fun W => W.cell? ⟨J0, 62, none⟩ = some (.int .u8 1) ∧ W.cell? ⟨cb, 12, none⟩ = some (.slice (some ⟨g, 0, none⟩) 2 2) ∧ W.cell? ⟨J0, 48, none⟩ = some (.int .u32 0) ∧ W.cell? ⟨J0, 49, none⟩ = some (.int .u32 ei) ∧ W.cell? ⟨w.heap.size + 1, 0, none⟩ = some (.int .u32 0) ∧ W.cell? ⟨w.heap.size + 1, 1, none⟩ = some (.int .u32 (ns : Int))) (first | exact hs3 | (refine HS.out _ ?_; repeat (first | exact Kept.refl _ | apply Kept.drew | apply Kept.alloc))) ((go_at_call 16; refine (HF.out _ ((Kept.refl w2).drew)).mono ?_; rintro e w3 ⟨rfl, k3⟩; have K3 := Lib.hid ((Kept.refl w2).drew.trans k3); have hs3 := HS.out w3 K3.out; clear k3))
      clear heq
      go_wp2_with fail
      go_meet
      exact ⟨K3, _, rfl⟩
  case rest =>
    obtain ⟨hk4, b4, rfl⟩ := hcut
    obtain ⟨w4, rfl⟩ : ∃ w4 : World, w4 = wc := ⟨_, rfl⟩
    have K4 := Lib.hid (K2.out.trans hk4.out)
    have HM4 := Lib.hid (HM2.out.kept hk4.out)
    have HO4 := Lib.hid (HO.out.kept K4.out)
    have B1 := Lib.hid (B1'.out.kept hk4.out)
    have B2 := Lib.hid (B2'.out.kept hk4.out)
    cases b4
    rotate_left
    · have HR := Lib.hid (Res.same (loc := loc) true HL.out HW.out K4.out)
      go_wp2_with fail
      go_ret
      exact HR.out
    clear hk4 HM2 HO K2 B1' B2' HM HY HI0 HI1
    have c1 := HM4.out.c1
    have c4 := HM4.out.c4
    have HG := Lib.hid (fun (W : World) => getIndex W 4294967294 (by omega) (by omega))
    have HS := Lib.hid (fun (W : World) (k : Kept w4 W) => (show W.cell? ⟨cb, 10, none⟩ = some (.slice (some ⟨LB, 0, none⟩) 2 2) ∧ W.cell? ⟨RB, 10, none⟩ = some (.int .u32 4294967294) from ⟨k.cell c1, k.cell c4⟩))
    go_upto_region 10 with fail
    go_region_held3 (fun W => W.cell? ⟨cb, 10, none⟩ = some (.slice (some ⟨LB, 0, none⟩) 2 2) ∧ W.cell? ⟨RB, 10, none⟩ = some (.int .u32 4294967294)) (first | exact hs5 | (refine HS.out _ ?_; repeat (first | exact Kept.refl _ | apply Kept.drew | apply Kept.alloc))) ((go_at_call 17; refine (HG.out _).mono ?_; rintro e w5 ⟨rfl, k5⟩; have K5 := Lib.hid ((Kept.refl w4).drew.trans k5); have hs5 := HS.out w5 K5.out; clear k5))
    have HO5 := Lib.hid (HO4.out.kept K5.out)
    have K5w := Lib.hid (K4.out.trans K5.out)
    have B1 := Lib.hid (B1.out.kept K5.out)
    have B2 := Lib.hid (B2.out.kept K5.out)
    have d1 := HO5.out.d1
    have d3 := HO5.out.d3
    have TC := TC.out
    have BR := Lib.hid (HM4.out.rb.kept K5.out)
    have R7 := Lib.hid HM4.out.r7
    clear c1 c4 HS HG hs5 HO4 K4 HM4 K5
    obtain ⟨hwr0, hwr2⟩ := hwr
    have hw3 : wrap = 0 ∨ wrap = 1 ∨ wrap = 2 := by omega
    rcases hw3 with rfl | rfl | rfl
    · have HR := Lib.hid (Res.same (loc := loc) true HL.out HW.out K5w.out)
      go_wp2_with fail
      go_ret
      exact HR.out
    · go_upto_region 15 with fail
      clear d1 d3 TC
      have x0 : w5.cell? ⟨lb, 0, none⟩ = some (.slice a l.length c) := (HL.out.kept K5w.out).cell 0
      have HSB := Lib.hid (fun (X : World) (h0 : Blk X (w.heap.size) 32 [.int .i32 loc]) (h1 : Blk X (w.heap.size + 1) 125 [.int .u32 0, .int .u32 (ns : Int)]) (h2 : Blk X (RB) 145 rcs) => (show X.cell? ⟨w.heap.size, 0, none⟩ = some (.int .i32 loc) ∧ X.cell? ⟨w.heap.size + 1, 0, none⟩ = some (.int .u32 0) ∧ X.cell? ⟨w.heap.size + 1, 1, none⟩ = some (.int .u32 (ns : Int)) ∧ X.cell? ⟨RB, 7, none⟩ = some (.int .i32 z) from ⟨h0.cell 0, h1.cell 0, h1.cell 1, (h2.cell 7).trans R7.out⟩))
      have HS := Lib.hid (fun (X : World) (k : Kept w5 X) => And.intro (k.cell x0) (HSB.out X (B1.out.kept k) (B2.out.kept k) (BR.out.kept k)))
      have HT6 := Lib.hid (fun (W6 X : World) (k : Kept w5 X) (hg : X.grownBy W6 (Value.ownBlock (.slice a l.length c))) => HSB.out W6 ((B1.out.kept k).grown hg (fun e => (B1.out.kept k).notOwned (own_kept HW.out.2 (K5w.out.trans k)) (by decide) e.symm)) ((B2.out.kept k).grown hg (fun e => (B2.out.kept k).notOwned (own_kept HW.out.2 (K5w.out.trans k)) (by decide) e.symm)) ((BR.out.kept k).grown hg (fun e => (BR.out.kept k).notOwned (own_kept HW.out.2 (K5w.out.trans k)) (by decide) e.symm)))
      clear HSB
      refine Late.region (S := (fun X => X.cell? ⟨lb, 0, none⟩ = some (.slice a l.length c) ∧ X.cell? ⟨w.heap.size, 0, none⟩ = some (.int .i32 loc) ∧ X.cell? ⟨w.heap.size + 1, 0, none⟩ = some (.int .u32 0) ∧ X.cell? ⟨w.heap.size + 1, 1, none⟩ = some (.int .u32 (ns : Int)) ∧ X.cell? ⟨RB, 7, none⟩ = some (.int .i32 z))) 32 (by kernel_rfl) (HS.out w5.drew ((Kept.refl w5).drew)) (fun hS0 => ?_)
      refine Late.take 0 (some 129) ?_ rfl rfl (by kernel_rfl) (by kernel_rfl) (by kernel_rfl) (by kernel_rfl) (fun _ _ _ h => h) (by kernel_rfl) (fun W hSW => ?_) hS0 ?_
      rotate_left
      · try dsimp only at hSW
        go_simp
        rfl
      simp only [Act.put, List.setIfInBounds_toArray, List.set_cons_zero, List.set_cons_succ]
      refine Late.take 1 (some 130) ?_ rfl rfl (by kernel_rfl) (by kernel_rfl) (by kernel_rfl) (by kernel_rfl) (fun _ _ _ h => h) (by kernel_rfl) (fun W hSW => ?_) hS0 ?_
      rotate_left
      · try dsimp only at hSW
        go_simp
        rfl
      simp only [Act.put, List.setIfInBounds_toArray, List.set_cons_zero, List.set_cons_succ]
      refine Late.take 2 (some 131) ?_ rfl rfl (by kernel_rfl) (by kernel_rfl) (by kernel_rfl) (by kernel_rfl) (fun _ _ _ h => h) (by kernel_rfl) (fun W hSW => ?_) hS0 ?_
      rotate_left
      · try dsimp only at hSW
        go_simp
        rfl
      simp only [Act.put, List.setIfInBounds_toArray, List.set_cons_zero, List.set_cons_succ]
      refine Late.take 3 (some 132) ?_ rfl rfl (by kernel_rfl) (by kernel_rfl) (by kernel_rfl) (by kernel_rfl) (fun _ _ _ h => h) (by kernel_rfl) (fun W hSW => ?_) hS0 ?_
      rotate_left
      · try dsimp only at hSW
        go_simp
        rfl
      simp only [Act.put, List.setIfInBounds_toArray, List.set_cons_zero, List.set_cons_succ]
      refine Late.take 4 (some 133) ?_ rfl rfl (by kernel_rfl) (by kernel_rfl) (by kernel_rfl) (by kernel_rfl) (fun _ _ _ h => h) (by kernel_rfl) (fun W hSW => ?_) hS0 ?_
      rotate_left
      · try dsimp only at hSW
        go_simp
        rfl
      simp only [Act.put, List.setIfInBounds_toArray, List.set_cons_zero, List.set_cons_succ]
      refine Late.take 5 (some 134) ?_ rfl rfl (by kernel_rfl) (by kernel_rfl) (by kernel_rfl) (by kernel_rfl) (fun _ _ _ h => h) (by kernel_rfl) (fun W hSW => ?_) hS0 ?_
      rotate_left
      · try dsimp only at hSW
        go_simp
        rfl
      simp only [Act.put, List.setIfInBounds_toArray, List.set_cons_zero, List.set_cons_succ]
      refine Late.take 6 (some 135) ?_ rfl rfl (by kernel_rfl) (by kernel_rfl) (by kernel_rfl) (by kernel_rfl) (fun _ _ _ h => h) (by kernel_rfl) (fun W hSW => ?_) hS0 ?_
      rotate_left
      · try dsimp only at hSW
        go_simp
        rfl
      simp only [Act.put, List.setIfInBounds_toArray, List.set_cons_zero, List.set_cons_succ]
      refine Late.take 7 (some 136) ?_ rfl rfl (by kernel_rfl) (by kernel_rfl) (by kernel_rfl) (by kernel_rfl) (fun _ _ _ h => h) (by kernel_rfl) (fun W hSW => ?_) hS0 ?_
      rotate_left
      · try dsimp only at hSW
        go_simp
        rfl
      simp only [Act.put, List.setIfInBounds_toArray, List.set_cons_zero, List.set_cons_succ]
      refine Late.take 8 (some 137) ?_ rfl rfl (by kernel_rfl) (by kernel_rfl) (by kernel_rfl) (by kernel_rfl) (fun _ _ _ h => h) (by kernel_rfl) (fun W hSW => ?_) hS0 ?_
      rotate_left
      · try dsimp only at hSW
        go_simp
        rfl
      simp only [Act.put, List.setIfInBounds_toArray, List.set_cons_zero, List.set_cons_succ]
      refine Late.take 12 (some 141) ?_ rfl rfl (by kernel_rfl) (by kernel_rfl) (by kernel_rfl) (by kernel_rfl) (fun _ _ _ h => h) (by kernel_rfl) (fun W hSW => ?_) hS0 ?_
      rotate_left
      · try dsimp only at hSW
        go_simp
        rfl
      simp only [Act.put, List.setIfInBounds_toArray, List.set_cons_zero, List.set_cons_succ]
      refine Late.take 13 (some 142) ?_ rfl rfl (by kernel_rfl) (by kernel_rfl) (by kernel_rfl) (by kernel_rfl) (fun _ _ _ h => h) (by kernel_rfl) (fun W hSW => ?_) hS0 ?_
      rotate_left
      · try dsimp only at hSW
        go_simp
        rfl
      simp only [Act.put, List.setIfInBounds_toArray, List.set_cons_zero, List.set_cons_succ]
      refine Late.take 14 (some 143) ?_ rfl rfl (by kernel_rfl) (by kernel_rfl) (by kernel_rfl) (by kernel_rfl) (fun _ _ _ h => h) (by kernel_rfl) (fun W hSW => ?_) hS0 ?_
      rotate_left
      · try dsimp only at hSW
        go_simp
        rfl
      simp only [Act.put, List.setIfInBounds_toArray, List.set_cons_zero, List.set_cons_succ]
      refine Late.take 15 (some 144) ?_ rfl rfl (by kernel_rfl) (by kernel_rfl) (by kernel_rfl) (by kernel_rfl) (fun _ _ _ h => h) (by kernel_rfl) (fun W hSW => ?_) hS0 ?_
      rotate_left
      · try dsimp only at hSW
        go_simp
        rfl
      simp only [Act.put, List.setIfInBounds_toArray, List.set_cons_zero, List.set_cons_succ]
      refine Late.take 16 (some 145) ?_ rfl rfl (by kernel_rfl) (by kernel_rfl) (by kernel_rfl) (by kernel_rfl) (fun _ _ _ h => h) (by kernel_rfl) (fun W hSW => ?_) hS0 ?_
      rotate_left
      · try dsimp only at hSW
        go_simp
        rfl
      simp only [Act.put, List.setIfInBounds_toArray, List.set_cons_zero, List.set_cons_succ]
      refine Late.take 17 (some 146) ?_ rfl rfl (by kernel_rfl) (by kernel_rfl) (by kernel_rfl) (by kernel_rfl) (fun _ _ _ h => h) (by kernel_rfl) (fun W hSW => ?_) hS0 ?_
      rotate_left
      · try dsimp only at hSW
        go_simp
        rfl
      simp only [Act.put, List.setIfInBounds_toArray, List.set_cons_zero, List.set_cons_succ]
      refine Late.take 18 (some 147) ?_ rfl rfl (by kernel_rfl) (by kernel_rfl) (by kernel_rfl) (by kernel_rfl) (fun _ _ _ h => h) (by kernel_rfl) (fun W hSW => ?_) hS0 ?_
      rotate_left
      · try dsimp only at hSW
        go_simp
        rfl
      simp only [Act.put, List.setIfInBounds_toArray, List.set_cons_zero, List.set_cons_succ]
      refine Late.ready (rs := [9, 19]) (by kernel_rfl) (by simp) ?_
      refine LateAll.cons rfl (fun K hK => ?_) (LateAll.cons rfl (fun K hK => ?_) (LateAll.nil))
      · skip
        go_simp
        refine hK.out _ _ (HS.out _ (by repeat (first | exact Kept.refl _ | apply Kept.drew | apply Kept.alloc))) (fun hS1 => ?_)
        clear hK K
        refine Late.take 10 (some 139) ?_ rfl rfl (by kernel_rfl) (by kernel_rfl) (by kernel_rfl) (by kernel_rfl) (fun _ _ _ h => h) (by kernel_rfl) (fun W hSW => ?_) hS1 ?_
        rotate_left
        · try dsimp only at hSW
          go_simp
          rfl
        simp only [Act.put, List.setIfInBounds_toArray, List.set_cons_zero, List.set_cons_succ]
        refine Late.take 11 (some 140) ?_ rfl rfl (by kernel_rfl) (by kernel_rfl) (by kernel_rfl) (by kernel_rfl) (fun _ _ _ h => h) (by kernel_rfl) (fun W hSW => ?_) hS1 ?_
        rotate_left
        · try dsimp only at hSW
          go_simp
          rfl
        simp only [Act.put, List.setIfInBounds_toArray, List.set_cons_zero, List.set_cons_succ]
        refine Late.ready (rs := [19]) (by kernel_rfl) (by simp) ?_
        refine LateAll.cons rfl (fun K hK => ?_) (LateAll.nil)
        go_simp
        refine hK.out _ _ (HS.out _ (by repeat (first | exact Kept.refl _ | apply Kept.drew | apply Kept.alloc))) (fun hS2 => ?_)
        clear hK K
        refine Late.take 20 (some 149) ?_ rfl rfl (by kernel_rfl) (by kernel_rfl) (by kernel_rfl) (by kernel_rfl) (fun _ _ _ h => h) (by kernel_rfl) (fun W hSW => ?_) hS2 ?_
        rotate_left
        · try dsimp only at hSW
          go_simp
          rfl
        simp only [Act.put, List.setIfInBounds_toArray, List.set_cons_zero, List.set_cons_succ]
        refine Late.take 21 (some 150) ?_ rfl rfl (by kernel_rfl) (by kernel_rfl) (by kernel_rfl) (by kernel_rfl) (fun _ _ _ h => h) (by kernel_rfl) (fun W hSW => ?_) hS2 ?_
        rotate_left
        · try dsimp only at hSW
          go_simp
          rfl
        simp only [Act.put, List.setIfInBounds_toArray, List.set_cons_zero, List.set_cons_succ]
        refine Late.take 22 (some 151) ?_ rfl rfl (by kernel_rfl) (by kernel_rfl) (by kernel_rfl) (by kernel_rfl) (fun _ _ _ h => h) (by kernel_rfl) (fun W hSW => ?_) hS2 ?_
        rotate_left
        · try dsimp only at hSW
          go_simp
          rfl
        simp only [Act.put, List.setIfInBounds_toArray, List.set_cons_zero, List.set_cons_succ]
        refine Late.ready (rs := [23]) (by kernel_rfl) (by simp) ?_
        refine LateAll.cons rfl (fun K hK => ?_) (LateAll.nil)
        go_simp
        refine hK.out _ _ (HS.out _ (by repeat (first | exact Kept.refl _ | apply Kept.drew | apply Kept.alloc))) (fun hS3 => ?_)
        clear hK K
        refine Late.take 24 (some 153) ?_ rfl rfl (by kernel_rfl) (by kernel_rfl) (by kernel_rfl) (by kernel_rfl) (fun _ _ _ h => h) (by kernel_rfl) (fun W hSW => ?_) hS3 ?_
        rotate_left
        · try dsimp only at hSW
          go_simp
          rfl
        simp only [Act.put, List.setIfInBounds_toArray, List.set_cons_zero, List.set_cons_succ]
        refine Late.ready (rs := [25]) (by kernel_rfl) (by simp) ?_
        refine LateAll.cons rfl (fun K hK => ?_) (LateAll.nil)
        go_simp
        refine hK.out _ _ (HS.out _ (by repeat (first | exact Kept.refl _ | apply Kept.drew | apply Kept.alloc))) (fun hS4 => ?_)
        clear hK K
        refine Late.take 26 (some 155) ?_ rfl rfl (by kernel_rfl) (by kernel_rfl) (by kernel_rfl) (by kernel_rfl) (fun _ _ _ h => h) (by kernel_rfl) (fun W hSW => ?_) hS4 ?_
        rotate_left
        · try dsimp only at hSW
          go_simp
          rfl
        simp only [Act.put, List.setIfInBounds_toArray, List.set_cons_zero, List.set_cons_succ]
        refine Late.take 27 (some 156) ?_ rfl rfl (by kernel_rfl) (by kernel_rfl) (by kernel_rfl) (by kernel_rfl) (fun _ _ _ h => h) (by kernel_rfl) (fun W hSW => ?_) hS4 ?_
        rotate_left
        · try dsimp only at hSW
          go_simp
          rfl
        simp only [Act.put, List.setIfInBounds_toArray, List.set_cons_zero, List.set_cons_succ]
        refine Late.ready (rs := [28]) (by kernel_rfl) (by simp) ?_
        refine LateAll.cons rfl (fun K hK => ?_) (LateAll.nil)
        go_simp
        refine hK.out _ _ (HS.out _ (by repeat (first | exact Kept.refl _ | apply Kept.drew | apply Kept.alloc))) (fun hS5 => ?_)
        clear hK K
        refine Late.ready (rs := [29]) (by kernel_rfl) (by simp) ?_
        refine LateAll.cons rfl (fun K hK => ?_) (LateAll.nil)
        refine step_append_lies _ (by rfl) _ _ _ (by rfl) base 34 i9 z9 2 24 Tryd.underlying28 hi hz0 hz2 hz3 hz1 (by decide) (.slice a l.length c) l.length _ (by rfl) (own_kept HW.out.2 (by repeat (first | exact K5w.out | apply Kept.drew | apply Kept.alloc))) ⟨_, 0, none⟩ 1 1 [_, .int .i32 loc] (by rfl) (by rfl) (newsE _ _ 34 _ (by simp)) (by simp [Value.oneCell']) (by decide) (by unfold maxLen; omega) (by omega) (Nat.le_trans hb (Kept.size (w := w) (by repeat (first | exact K5w.out | apply Kept.drew | apply Kept.alloc)))) _ (by rfl) ?_
        intro g6 c6 w6 hown6 hg6 hat6 hlt6
        obtain ⟨⟨y0, y1⟩, hres⟩ := pushed (by repeat (first | exact K5w.out | apply Kept.drew | apply Kept.alloc)) HL.out HW.out hown6 hg6
        have HRS := Lib.hid hres
        refine hK.out _ _ ⟨y0, HT6.out w6 _ (by repeat (first | exact Kept.refl _ | apply Kept.drew | apply Kept.alloc)) hg6⟩ (fun hS6 => ?_)
        clear hres hown6 hg6 hat6 hlt6 hK K
        simp only [Act.put, List.setIfInBounds_toArray, List.set_cons_zero, List.set_cons_succ]
        refine Late.ready (rs := [30]) (by kernel_rfl) (by simp) ?_
        refine LateAll.cons rfl (fun K hK => ?_) (LateAll.nil)
        go_simp
        refine hK.out _ _ (by assumption) (fun hS7 => ?_)
        clear hK K
        refine Late.take 31 (some 160) ?_ rfl rfl (by kernel_rfl) (by kernel_rfl) (by kernel_rfl) (by kernel_rfl) (fun _ _ _ h => h) (by kernel_rfl) (fun W hSW => ?_) hS7 ?_
        rotate_left
        · try dsimp only at hSW
          go_simp
          rfl
        simp only [Act.put, List.setIfInBounds_toArray, List.set_cons_zero, List.set_cons_succ]
        refine Late.ready (rs := [32]) (by kernel_rfl) (by simp) ?_
        refine LateAll.last rfl (fun K hK => ?_)
        go_simp
        refine hK.out _ _ ?_
        clear hK K
        refine Late.done (by kernel_rfl) ?_ _
        (go_wp2_with fail; go_ret; exact HRS.out)
      · skip
        go_simp
        refine hK.out _ _ (HS.out _ (by repeat (first | exact Kept.refl _ | apply Kept.drew | apply Kept.alloc))) (fun hS8 => ?_)
        clear hK K
        refine Late.take 20 (some 149) ?_ rfl rfl (by kernel_rfl) (by kernel_rfl) (by kernel_rfl) (by kernel_rfl) (fun _ _ _ h => h) (by kernel_rfl) (fun W hSW => ?_) hS8 ?_
        rotate_left
        · try dsimp only at hSW
          go_simp
          rfl
        simp only [Act.put, List.setIfInBounds_toArray, List.set_cons_zero, List.set_cons_succ]
        refine Late.take 21 (some 150) ?_ rfl rfl (by kernel_rfl) (by kernel_rfl) (by kernel_rfl) (by kernel_rfl) (fun _ _ _ h => h) (by kernel_rfl) (fun W hSW => ?_) hS8 ?_
        rotate_left
        · try dsimp only at hSW
          go_simp
          rfl
        simp only [Act.put, List.setIfInBounds_toArray, List.set_cons_zero, List.set_cons_succ]
        refine Late.ready (rs := [9]) (by kernel_rfl) (by simp) ?_
        refine LateAll.cons rfl (fun K hK => ?_) (LateAll.nil)
        go_simp
        refine hK.out _ _ (HS.out _ (by repeat (first | exact Kept.refl _ | apply Kept.drew | apply Kept.alloc))) (fun hS9 => ?_)
        clear hK K
        refine Late.take 10 (some 139) ?_ rfl rfl (by kernel_rfl) (by kernel_rfl) (by kernel_rfl) (by kernel_rfl) (fun _ _ _ h => h) (by kernel_rfl) (fun W hSW => ?_) hS9 ?_
        rotate_left
        · try dsimp only at hSW
          go_simp
          rfl
        simp only [Act.put, List.setIfInBounds_toArray, List.set_cons_zero, List.set_cons_succ]
        refine Late.take 11 (some 140) ?_ rfl rfl (by kernel_rfl) (by kernel_rfl) (by kernel_rfl) (by kernel_rfl) (fun _ _ _ h => h) (by kernel_rfl) (fun W hSW => ?_) hS9 ?_
        rotate_left
        · try dsimp only at hSW
          go_simp
          rfl
        simp only [Act.put, List.setIfInBounds_toArray, List.set_cons_zero, List.set_cons_succ]
        refine Late.take 22 (some 151) ?_ rfl rfl (by kernel_rfl) (by kernel_rfl) (by kernel_rfl) (by kernel_rfl) (fun _ _ _ h => h) (by kernel_rfl) (fun W hSW => ?_) hS9 ?_
        rotate_left
        · try dsimp only at hSW
          go_simp
          rfl
        simp only [Act.put, List.setIfInBounds_toArray, List.set_cons_zero, List.set_cons_succ]
        refine Late.ready (rs := [23]) (by kernel_rfl) (by simp) ?_
        refine LateAll.cons rfl (fun K hK => ?_) (LateAll.nil)
        go_simp
        refine hK.out _ _ (HS.out _ (by repeat (first | exact Kept.refl _ | apply Kept.drew | apply Kept.alloc))) (fun hS10 => ?_)
        clear hK K
        refine Late.take 24 (some 153) ?_ rfl rfl (by kernel_rfl) (by kernel_rfl) (by kernel_rfl) (by kernel_rfl) (fun _ _ _ h => h) (by kernel_rfl) (fun W hSW => ?_) hS10 ?_
        rotate_left
        · try dsimp only at hSW
          go_simp
          rfl
        simp only [Act.put, List.setIfInBounds_toArray, List.set_cons_zero, List.set_cons_succ]
        refine Late.ready (rs := [25]) (by kernel_rfl) (by simp) ?_
        refine LateAll.cons rfl (fun K hK => ?_) (LateAll.nil)
        go_simp
        refine hK.out _ _ (HS.out _ (by repeat (first | exact Kept.refl _ | apply Kept.drew | apply Kept.alloc))) (fun hS11 => ?_)
        clear hK K
        refine Late.take 26 (some 155) ?_ rfl rfl (by kernel_rfl) (by kernel_rfl) (by kernel_rfl) (by kernel_rfl) (fun _ _ _ h => h) (by kernel_rfl) (fun W hSW => ?_) hS11 ?_
        rotate_left
        · try dsimp only at hSW
          go_simp
          rfl
        simp only [Act.put, List.setIfInBounds_toArray, List.set_cons_zero, List.set_cons_succ]
        refine Late.take 27 (some 156) ?_ rfl rfl (by kernel_rfl) (by kernel_rfl) (by kernel_rfl) (by kernel_rfl) (fun _ _ _ h => h) (by kernel_rfl) (fun W hSW => ?_) hS11 ?_
        rotate_left
        · try dsimp only at hSW
          go_simp
          rfl
        simp only [Act.put, List.setIfInBounds_toArray, List.set_cons_zero, List.set_cons_succ]
        refine Late.ready (rs := [28]) (by kernel_rfl) (by simp) ?_
        refine LateAll.cons rfl (fun K hK => ?_) (LateAll.nil)
        go_simp
        refine hK.out _ _ (HS.out _ (by repeat (first | exact Kept.refl _ | apply Kept.drew | apply Kept.alloc))) (fun hS12 => ?_)
        clear hK K
        refine Late.ready (rs := [29]) (by kernel_rfl) (by simp) ?_
        refine LateAll.cons rfl (fun K hK => ?_) (LateAll.nil)
        refine step_append_lies _ (by rfl) _ _ _ (by rfl) base 34 i9 z9 2 24 Tryd.underlying28 hi hz0 hz2 hz3 hz1 (by decide) (.slice a l.length c) l.length _ (by rfl) (own_kept HW.out.2 (by repeat (first | exact K5w.out | apply Kept.drew | apply Kept.alloc))) ⟨_, 0, none⟩ 1 1 [_, .int .i32 loc] (by rfl) (by rfl) (newsE _ _ 34 _ (by simp)) (by simp [Value.oneCell']) (by decide) (by unfold maxLen; omega) (by omega) (Nat.le_trans hb (Kept.size (w := w) (by repeat (first | exact K5w.out | apply Kept.drew | apply Kept.alloc)))) _ (by rfl) ?_
        intro g6 c6 w6 hown6 hg6 hat6 hlt6
        obtain ⟨⟨y0, y1⟩, hres⟩ := pushed (by repeat (first | exact K5w.out | apply Kept.drew | apply Kept.alloc)) HL.out HW.out hown6 hg6
        have HRS := Lib.hid hres
        refine hK.out _ _ ⟨y0, HT6.out w6 _ (by repeat (first | exact Kept.refl _ | apply Kept.drew | apply Kept.alloc)) hg6⟩ (fun hS13 => ?_)
        clear hres hown6 hg6 hat6 hlt6 hK K
        simp only [Act.put, List.setIfInBounds_toArray, List.set_cons_zero, List.set_cons_succ]
        refine Late.ready (rs := [30]) (by kernel_rfl) (by simp) ?_
        refine LateAll.cons rfl (fun K hK => ?_) (LateAll.nil)
        go_simp
        refine hK.out _ _ (by assumption) (fun hS14 => ?_)
        clear hK K
        refine Late.take 31 (some 160) ?_ rfl rfl (by kernel_rfl) (by kernel_rfl) (by kernel_rfl) (by kernel_rfl) (fun _ _ _ h => h) (by kernel_rfl) (fun W hSW => ?_) hS14 ?_
        rotate_left
        · try dsimp only at hSW
          go_simp
          rfl
        simp only [Act.put, List.setIfInBounds_toArray, List.set_cons_zero, List.set_cons_succ]
        refine Late.ready (rs := [32]) (by kernel_rfl) (by simp) ?_
        refine LateAll.last rfl (fun K hK => ?_)
        go_simp
        refine hK.out _ _ ?_
        clear hK K
        refine Late.done (by kernel_rfl) ?_ _
        (go_wp2_with fail; go_ret; exact HRS.out)
    · have d2 := HO5.out.d2
      cases live
      · have HR := Lib.hid (Res.same (loc := loc) true HL.out HW.out K5w.out)
        go_wp2_with fail
        go_ret
        exact HR.out
      · have d5 := HO5.out.d5
        have d6 := HO5.out.d6
        have x1 : w5.cell? ⟨w.heap.size, 0, none⟩ = some (.int .i32 loc) := B1.out.cell 0
        have HS := Lib.hid (fun (X : World) (k : Kept w5 X) => (show X.cell? ⟨w.heap.size, 0, none⟩ = some (.int .i32 loc) ∧ X.cell? ⟨J1, 52, none⟩ = some (.int .u32 r0) ∧ X.cell? ⟨J1, 53, none⟩ = some (.int .u32 r1) from ⟨k.cell x1, k.cell d5, k.cell d6⟩))
        go_upto_region 18 with fail
        go_cut [17] (fun t W => Hid (T17 w5 loc t W))
        case first =>
          go_region_held3 (fun X => X.cell? ⟨w.heap.size, 0, none⟩ = some (.int .i32 loc) ∧ X.cell? ⟨J1, 52, none⟩ = some (.int .u32 r0) ∧ X.cell? ⟨J1, 53, none⟩ = some (.int .u32 r1)) (first | (refine HS.out _ ?_; repeat (first | exact Kept.refl _ | apply Kept.drew | apply Kept.alloc | (refine Kept.setCell ?_ (by simp) _)))) (fail)
          all_goals
            go_wp2_with fail
            go_meet
            exact Lib.hid ⟨_, _, _, rfl, (by repeat (first | exact Blk.new' _ _ _ _ (by simp) | apply Blk.drew | apply Blk.alloc)), (by repeat (first | exact Kept.refl _ | apply Kept.drew | apply Kept.alloc)), by omega⟩
        case rest =>
          obtain ⟨q, T, p, rfl, hbq, hk6, hq5⟩ := hcut.out
          obtain ⟨w6, rfl⟩ : ∃ w6 : World, w6 = wc := ⟨_, rfl⟩
          have K6 := Lib.hid (K5w.out.trans hk6)
          have BQ := Lib.hid hbq
          have d4 := hk6.cell HO5.out.d4
          have B1 := Lib.hid (B1.out.kept hk6)
          have HQ : Hid (w.heap.size ≤ q) := Lib.hid (by have := K5w.out.size; omega)
          clear hcut hbq hk6 hq5 HS d1 d2 d3 d5 d6 x1 TC B2 K5w
          cases async
          · go_upto_region 21 with fail
            clear d4
            have x0 : w6.cell? ⟨lb, 0, none⟩ = some (.slice a l.length c) := (HL.out.kept K6.out).cell 0
            have HSB := Lib.hid (fun (X : World) (h0 : Blk X (w.heap.size) 32 [.int .i32 loc]) (h1 : Blk X (q) 175 [.iface T (.pointer (some p)), .int .i32 loc]) => (show X.cell? ⟨w.heap.size, 0, none⟩ = some (.int .i32 loc) ∧ X.cell? ⟨q, 0, none⟩ = some (.iface T (.pointer (some p))) ∧ X.cell? ⟨q, 1, none⟩ = some (.int .i32 loc) from ⟨h0.cell 0, h1.cell 0, h1.cell 1⟩))
            have HS := Lib.hid (fun (X : World) (k : Kept w6 X) => And.intro (k.cell x0) (HSB.out X (B1.out.kept k) (BQ.out.kept k)))
            have HT6 := Lib.hid (fun (W6 X : World) (k : Kept w6 X) (hg : X.grownBy W6 (Value.ownBlock (.slice a l.length c))) => HSB.out W6 ((B1.out.kept k).grown hg (fun e => (B1.out.kept k).notOwned (own_kept HW.out.2 (K6.out.trans k)) (by decide) e.symm)) ((BQ.out.kept k).grown hg (fun e => (BQ.out.kept k).notOwned (own_kept HW.out.2 (K6.out.trans k)) (by decide) e.symm)))
            clear HSB
            refine Late.region (S := (fun X => X.cell? ⟨lb, 0, none⟩ = some (.slice a l.length c) ∧ X.cell? ⟨w.heap.size, 0, none⟩ = some (.int .i32 loc) ∧ X.cell? ⟨q, 0, none⟩ = some (.iface T (.pointer (some p))) ∧ X.cell? ⟨q, 1, none⟩ = some (.int .i32 loc))) 15 (by kernel_rfl) (HS.out w6.drew ((Kept.refl w6).drew)) (fun hS0 => ?_)
            refine Late.take 0 (some 193) ?_ rfl rfl (by kernel_rfl) (by kernel_rfl) (by kernel_rfl) (by kernel_rfl) (fun _ _ _ h => h) (by kernel_rfl) (fun W hSW => ?_) hS0 ?_
            rotate_left
            · try dsimp only at hSW
              go_simp
              rfl
            simp only [Act.put, List.setIfInBounds_toArray, List.set_cons_zero, List.set_cons_succ]
            refine Late.take 1 (some 194) ?_ rfl rfl (by kernel_rfl) (by kernel_rfl) (by kernel_rfl) (by kernel_rfl) (fun _ _ _ h => h) (by kernel_rfl) (fun W hSW => ?_) hS0 ?_
            rotate_left
            · try dsimp only at hSW
              go_simp
              rfl
            simp only [Act.put, List.setIfInBounds_toArray, List.set_cons_zero, List.set_cons_succ]
            refine Late.take 2 (some 195) ?_ rfl rfl (by kernel_rfl) (by kernel_rfl) (by kernel_rfl) (by kernel_rfl) (fun _ _ _ h => h) (by kernel_rfl) (fun W hSW => ?_) hS0 ?_
            rotate_left
            · try dsimp only at hSW
              go_simp
              rfl
            simp only [Act.put, List.setIfInBounds_toArray, List.set_cons_zero, List.set_cons_succ]
            refine Late.take 3 (some 196) ?_ rfl rfl (by kernel_rfl) (by kernel_rfl) (by kernel_rfl) (by kernel_rfl) (fun _ _ _ h => h) (by kernel_rfl) (fun W hSW => ?_) hS0 ?_
            rotate_left
            · try dsimp only at hSW
              go_simp
              rfl
            simp only [Act.put, List.setIfInBounds_toArray, List.set_cons_zero, List.set_cons_succ]
            refine Late.take 4 (some 197) ?_ rfl rfl (by kernel_rfl) (by kernel_rfl) (by kernel_rfl) (by kernel_rfl) (fun _ _ _ h => h) (by kernel_rfl) (fun W hSW => ?_) hS0 ?_
            rotate_left
            · try dsimp only at hSW
              go_simp
              rfl
            simp only [Act.put, List.setIfInBounds_toArray, List.set_cons_zero, List.set_cons_succ]
            refine Late.take 5 (some 198) ?_ rfl rfl (by kernel_rfl) (by kernel_rfl) (by kernel_rfl) (by kernel_rfl) (fun _ _ _ h => h) (by kernel_rfl) (fun W hSW => ?_) hS0 ?_
            rotate_left
            · try dsimp only at hSW
              go_simp
              rfl
            simp only [Act.put, List.setIfInBounds_toArray, List.set_cons_zero, List.set_cons_succ]
            refine Late.take 6 (some 199) ?_ rfl rfl (by kernel_rfl) (by kernel_rfl) (by kernel_rfl) (by kernel_rfl) (fun _ _ _ h => h) (by kernel_rfl) (fun W hSW => ?_) hS0 ?_
            rotate_left
            · try dsimp only at hSW
              go_simp
              rfl
            simp only [Act.put, List.setIfInBounds_toArray, List.set_cons_zero, List.set_cons_succ]
            refine Late.take 7 (some 200) ?_ rfl rfl (by kernel_rfl) (by kernel_rfl) (by kernel_rfl) (by kernel_rfl) (fun _ _ _ h => h) (by kernel_rfl) (fun W hSW => ?_) hS0 ?_
            rotate_left
            · try dsimp only at hSW
              go_simp
              rfl
            simp only [Act.put, List.setIfInBounds_toArray, List.set_cons_zero, List.set_cons_succ]
            refine Late.ready (rs := [8]) (by kernel_rfl) (by simp) ?_
            refine LateAll.cons rfl (fun K hK => ?_) (LateAll.nil)
            go_simp
            refine hK.out _ _ (HS.out _ (by repeat (first | exact Kept.refl _ | apply Kept.drew | apply Kept.alloc))) (fun hS1 => ?_)
            clear hK K
            refine Late.take 9 (some 202) ?_ rfl rfl (by kernel_rfl) (by kernel_rfl) (by kernel_rfl) (by kernel_rfl) (fun _ _ _ h => h) (by kernel_rfl) (fun W hSW => ?_) hS1 ?_
            rotate_left
            · try dsimp only at hSW
              go_simp
              rfl
            simp only [Act.put, List.setIfInBounds_toArray, List.set_cons_zero, List.set_cons_succ]
            refine Late.take 10 (some 203) ?_ rfl rfl (by kernel_rfl) (by kernel_rfl) (by kernel_rfl) (by kernel_rfl) (fun _ _ _ h => h) (by kernel_rfl) (fun W hSW => ?_) hS1 ?_
            rotate_left
            · try dsimp only at hSW
              go_simp
              rfl
            simp only [Act.put, List.setIfInBounds_toArray, List.set_cons_zero, List.set_cons_succ]
            refine Late.ready (rs := [11]) (by kernel_rfl) (by simp) ?_
            refine LateAll.cons rfl (fun K hK => ?_) (LateAll.nil)
            go_simp
            refine hK.out _ _ (HS.out _ (by repeat (first | exact Kept.refl _ | apply Kept.drew | apply Kept.alloc))) (fun hS2 => ?_)
            clear hK K
            refine Late.ready (rs := [12]) (by kernel_rfl) (by simp) ?_
            refine LateAll.cons rfl (fun K hK => ?_) (LateAll.nil)
            refine step_append_lies _ (by rfl) _ _ _ (by rfl) base 34 i9 z9 2 24 Tryd.underlying28 hi hz0 hz2 hz3 hz1 (by decide) (.slice a l.length c) l.length _ (by rfl) (own_kept HW.out.2 (by repeat (first | exact K6.out | apply Kept.drew | apply Kept.alloc))) ⟨_, 0, none⟩ 1 1 [_, .int .i32 loc] (by rfl) (by rfl) (newsE _ _ 34 _ (by simp)) (by simp [Value.oneCell']) (by decide) (by unfold maxLen; omega) (by omega) (Nat.le_trans hb (Kept.size (w := w) (by repeat (first | exact K6.out | apply Kept.drew | apply Kept.alloc)))) _ (by rfl) ?_
            intro g6 c6 w6 hown6 hg6 hat6 hlt6
            obtain ⟨⟨y0, y1⟩, hres⟩ := pushed (by repeat (first | exact K6.out | apply Kept.drew | apply Kept.alloc)) HL.out HW.out hown6 hg6
            have HRS := Lib.hid hres
            refine hK.out _ _ ⟨y0, HT6.out w6 _ (by repeat (first | exact Kept.refl _ | apply Kept.drew | apply Kept.alloc)) hg6⟩ (fun hS3 => ?_)
            clear hres hown6 hg6 hat6 hlt6 hK K
            simp only [Act.put, List.setIfInBounds_toArray, List.set_cons_zero, List.set_cons_succ]
            refine Late.ready (rs := [13]) (by kernel_rfl) (by simp) ?_
            refine LateAll.cons rfl (fun K hK => ?_) (LateAll.nil)
            go_simp
            refine hK.out _ _ (by assumption) (fun hS4 => ?_)
            clear hK K
            refine Late.take 14 (some 207) ?_ rfl rfl (by kernel_rfl) (by kernel_rfl) (by kernel_rfl) (by kernel_rfl) (fun _ _ _ h => h) (by kernel_rfl) (fun W hSW => ?_) hS4 ?_
            rotate_left
            · try dsimp only at hSW
              go_simp
              rfl
            simp only [Act.put, List.setIfInBounds_toArray, List.set_cons_zero, List.set_cons_succ]
            refine Late.ready (rs := [15]) (by kernel_rfl) (by simp) ?_
            refine LateAll.last rfl (fun K hK => ?_)
            go_simp
            refine hK.out _ _ ?_
            clear hK K
            refine Late.done (by kernel_rfl) ?_ _
            (go_wp2_with fail; go_ret; exact HRS.out)
          · have y0 : w6.cell? ⟨q, 0, none⟩ = some (.iface T (.pointer (some p))) := BQ.out.cell 0
            have y1 : w6.cell? ⟨q, 1, none⟩ = some (.int .i32 loc) := BQ.out.cell 1
            have y0f := BQ.out.free 0
            have hqs := BQ.out.lt
            have nq := B1.out.apart BQ.out (by decide)
            have K7 : Hid (Kept w ((w6.setCell ⟨q, 0, none⟩ (.iface 240 (.pointer (some ⟨w6.heap.size, 0, none⟩)))).alloc (.cells #[.iface T (.pointer (some p)), .int .i32 loc] 242))) := Lib.hid ((K6.out.setCell (p := ⟨q, 0, none⟩) HQ.out _).alloc _)
            have B17 : Hid (Blk ((w6.setCell ⟨q, 0, none⟩ (.iface 240 (.pointer (some ⟨w6.heap.size, 0, none⟩)))).alloc (.cells #[.iface T (.pointer (some p)), .int .i32 loc] 242)) w.heap.size 32 [.int .i32 loc]) := Lib.hid ((B1.out.far (p := ⟨q, 0, none⟩) nq _).alloc _)
            have BQ7 : Hid (Blk ((w6.setCell ⟨q, 0, none⟩ (.iface 240 (.pointer (some ⟨w6.heap.size, 0, none⟩)))).alloc (.cells #[.iface T (.pointer (some p)), .int .i32 loc] 242)) q 175 [.iface 240 (.pointer (some ⟨w6.heap.size, 0, none⟩)), .int .i32 loc]) := Lib.hid ((BQ.out.set 0 _).alloc _)
            go_upto_region 21 with fail
            clear d4 y0 y1 y0f
            generalize (w6.setCell ⟨q, 0, none⟩ (.iface 240 (.pointer (some ⟨w6.heap.size, 0, none⟩)))).alloc (.cells #[.iface T (.pointer (some p)), .int .i32 loc] 242) = w7 at *
            clear nq hqs
            have x0 : w7.cell? ⟨lb, 0, none⟩ = some (.slice a l.length c) := (HL.out.kept K7.out).cell 0
            have HSB := Lib.hid (fun (X : World) (h0 : Blk X (w.heap.size) 32 [.int .i32 loc]) (h1 : Blk X (q) 175 [.iface 240 (.pointer (some ⟨w6.heap.size, 0, none⟩)), .int .i32 loc]) => (show X.cell? ⟨w.heap.size, 0, none⟩ = some (.int .i32 loc) ∧ X.cell? ⟨q, 0, none⟩ = some (.iface 240 (.pointer (some ⟨w6.heap.size, 0, none⟩))) ∧ X.cell? ⟨q, 1, none⟩ = some (.int .i32 loc) from ⟨h0.cell 0, h1.cell 0, h1.cell 1⟩))
            have HS := Lib.hid (fun (X : World) (k : Kept w7 X) => And.intro (k.cell x0) (HSB.out X (B17.out.kept k) (BQ7.out.kept k)))
            have HT6 := Lib.hid (fun (W6 X : World) (k : Kept w7 X) (hg : X.grownBy W6 (Value.ownBlock (.slice a l.length c))) => HSB.out W6 ((B17.out.kept k).grown hg (fun e => (B17.out.kept k).notOwned (own_kept HW.out.2 (K7.out.trans k)) (by decide) e.symm)) ((BQ7.out.kept k).grown hg (fun e => (BQ7.out.kept k).notOwned (own_kept HW.out.2 (K7.out.trans k)) (by decide) e.symm)))
            clear HSB
            refine Late.region (S := (fun X => X.cell? ⟨lb, 0, none⟩ = some (.slice a l.length c) ∧ X.cell? ⟨w.heap.size, 0, none⟩ = some (.int .i32 loc) ∧ X.cell? ⟨q, 0, none⟩ = some (.iface 240 (.pointer (some ⟨w6.heap.size, 0, none⟩))) ∧ X.cell? ⟨q, 1, none⟩ = some (.int .i32 loc))) 15 (by kernel_rfl) (HS.out w7.drew ((Kept.refl w7).drew)) (fun hS0 => ?_)
            refine Late.take 0 (some 193) ?_ rfl rfl (by kernel_rfl) (by kernel_rfl) (by kernel_rfl) (by kernel_rfl) (fun _ _ _ h => h) (by kernel_rfl) (fun W hSW => ?_) hS0 ?_
            rotate_left
            · try dsimp only at hSW
              go_simp
              rfl
            simp only [Act.put, List.setIfInBounds_toArray, List.set_cons_zero, List.set_cons_succ]
            refine Late.take 1 (some 194) ?_ rfl rfl (by kernel_rfl) (by kernel_rfl) (by kernel_rfl) (by kernel_rfl) (fun _ _ _ h => h) (by kernel_rfl) (fun W hSW => ?_) hS0 ?_
            rotate_left
            · try dsimp only at hSW
              go_simp
              rfl
            simp only [Act.put, List.setIfInBounds_toArray, List.set_cons_zero, List.set_cons_succ]
            refine Late.take 2 (some 195) ?_ rfl rfl (by kernel_rfl) (by kernel_rfl) (by kernel_rfl) (by kernel_rfl) (fun _ _ _ h => h) (by kernel_rfl) (fun W hSW => ?_) hS0 ?_
            rotate_left
            · try dsimp only at hSW
              go_simp
              rfl
            simp only [Act.put, List.setIfInBounds_toArray, List.set_cons_zero, List.set_cons_succ]
            refine Late.take 3 (some 196) ?_ rfl rfl (by kernel_rfl) (by kernel_rfl) (by kernel_rfl) (by kernel_rfl) (fun _ _ _ h => h) (by kernel_rfl) (fun W hSW => ?_) hS0 ?_
            rotate_left
            · try dsimp only at hSW
              go_simp
              rfl
            simp only [Act.put, List.setIfInBounds_toArray, List.set_cons_zero, List.set_cons_succ]
            refine Late.take 4 (some 197) ?_ rfl rfl (by kernel_rfl) (by kernel_rfl) (by kernel_rfl) (by kernel_rfl) (fun _ _ _ h => h) (by kernel_rfl) (fun W hSW => ?_) hS0 ?_
            rotate_left
            · try dsimp only at hSW
              go_simp
              rfl
            simp only [Act.put, List.setIfInBounds_toArray, List.set_cons_zero, List.set_cons_succ]
            refine Late.take 5 (some 198) ?_ rfl rfl (by kernel_rfl) (by kernel_rfl) (by kernel_rfl) (by kernel_rfl) (fun _ _ _ h => h) (by kernel_rfl) (fun W hSW => ?_) hS0 ?_
            rotate_left
            · try dsimp only at hSW
              go_simp
              rfl
            simp only [Act.put, List.setIfInBounds_toArray, List.set_cons_zero, List.set_cons_succ]
            refine Late.take 6 (some 199) ?_ rfl rfl (by kernel_rfl) (by kernel_rfl) (by kernel_rfl) (by kernel_rfl) (fun _ _ _ h => h) (by kernel_rfl) (fun W hSW => ?_) hS0 ?_
            rotate_left
            · try dsimp only at hSW
              go_simp
              rfl
            simp only [Act.put, List.setIfInBounds_toArray, List.set_cons_zero, List.set_cons_succ]
            refine Late.take 7 (some 200) ?_ rfl rfl (by kernel_rfl) (by kernel_rfl) (by kernel_rfl) (by kernel_rfl) (fun _ _ _ h => h) (by kernel_rfl) (fun W hSW => ?_) hS0 ?_
            rotate_left
            · try dsimp only at hSW
              go_simp
              rfl
            simp only [Act.put, List.setIfInBounds_toArray, List.set_cons_zero, List.set_cons_succ]
            refine Late.ready (rs := [8]) (by kernel_rfl) (by simp) ?_
            refine LateAll.cons rfl (fun K hK => ?_) (LateAll.nil)
            go_simp
            refine hK.out _ _ (HS.out _ (by repeat (first | exact Kept.refl _ | apply Kept.drew | apply Kept.alloc))) (fun hS1 => ?_)
            clear hK K
            refine Late.take 9 (some 202) ?_ rfl rfl (by kernel_rfl) (by kernel_rfl) (by kernel_rfl) (by kernel_rfl) (fun _ _ _ h => h) (by kernel_rfl) (fun W hSW => ?_) hS1 ?_
            rotate_left
            · try dsimp only at hSW
              go_simp
              rfl
            simp only [Act.put, List.setIfInBounds_toArray, List.set_cons_zero, List.set_cons_succ]
            refine Late.take 10 (some 203) ?_ rfl rfl (by kernel_rfl) (by kernel_rfl) (by kernel_rfl) (by kernel_rfl) (fun _ _ _ h => h) (by kernel_rfl) (fun W hSW => ?_) hS1 ?_
            rotate_left
            · try dsimp only at hSW
              go_simp
              rfl
            simp only [Act.put, List.setIfInBounds_toArray, List.set_cons_zero, List.set_cons_succ]
            refine Late.ready (rs := [11]) (by kernel_rfl) (by simp) ?_
            refine LateAll.cons rfl (fun K hK => ?_) (LateAll.nil)
            go_simp
            refine hK.out _ _ (HS.out _ (by repeat (first | exact Kept.refl _ | apply Kept.drew | apply Kept.alloc))) (fun hS2 => ?_)
            clear hK K
            refine Late.ready (rs := [12]) (by kernel_rfl) (by simp) ?_
            refine LateAll.cons rfl (fun K hK => ?_) (LateAll.nil)
            refine step_append_lies _ (by rfl) _ _ _ (by rfl) base 34 i9 z9 2 24 Tryd.underlying28 hi hz0 hz2 hz3 hz1 (by decide) (.slice a l.length c) l.length _ (by rfl) (own_kept HW.out.2 (by repeat (first | exact K7.out | apply Kept.drew | apply Kept.alloc))) ⟨_, 0, none⟩ 1 1 [_, .int .i32 loc] (by rfl) (by rfl) (newsE _ _ 34 _ (by simp)) (by simp [Value.oneCell']) (by decide) (by unfold maxLen; omega) (by omega) (Nat.le_trans hb (Kept.size (w := w) (by repeat (first | exact K7.out | apply Kept.drew | apply Kept.alloc)))) _ (by rfl) ?_
            intro g6 c6 w6 hown6 hg6 hat6 hlt6
            obtain ⟨⟨y0, y1⟩, hres⟩ := pushed (by repeat (first | exact K7.out | apply Kept.drew | apply Kept.alloc)) HL.out HW.out hown6 hg6
            have HRS := Lib.hid hres
            refine hK.out _ _ ⟨y0, HT6.out w6 _ (by repeat (first | exact Kept.refl _ | apply Kept.drew | apply Kept.alloc)) hg6⟩ (fun hS3 => ?_)
            clear hres hown6 hg6 hat6 hlt6 hK K
            simp only [Act.put, List.setIfInBounds_toArray, List.set_cons_zero, List.set_cons_succ]
            refine Late.ready (rs := [13]) (by kernel_rfl) (by simp) ?_
            refine LateAll.cons rfl (fun K hK => ?_) (LateAll.nil)
            go_simp
            refine hK.out _ _ (by assumption) (fun hS4 => ?_)
            clear hK K
            refine Late.take 14 (some 207) ?_ rfl rfl (by kernel_rfl) (by kernel_rfl) (by kernel_rfl) (by kernel_rfl) (fun _ _ _ h => h) (by kernel_rfl) (fun W hSW => ?_) hS4 ?_
            rotate_left
            · try dsimp only at hSW
              go_simp
              rfl
            simp only [Act.put, List.setIfInBounds_toArray, List.set_cons_zero, List.set_cons_succ]
            refine Late.ready (rs := [15]) (by kernel_rfl) (by simp) ?_
            refine LateAll.last rfl (fun K hK => ?_)
            go_simp
            refine hK.out _ _ ?_
            clear hK K
            refine Late.done (by kernel_rfl) ?_ _
            (go_wp2_with fail; go_ret; exact HRS.out)
end Go.Proofs.YtilhckihpgfkfaaDoor.sr
