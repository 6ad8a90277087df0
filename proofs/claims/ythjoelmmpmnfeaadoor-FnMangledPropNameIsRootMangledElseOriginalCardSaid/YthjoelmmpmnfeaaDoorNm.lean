/-
  noOpRenamer's NameForSymbol and NewNoOpRenamer over this seat's program.
  Conditions: the chain from the ref ends; ast.InvalidRef holds its initial value.
-/
import Derived.Test.YthjoelmmpmnfeaaDoorBm
import Derived.Test.YthjoelmmpmnfeaaDoorFollow
namespace Go.Proofs.YthjoelmmpmnfeaaDoor.mp
open Go.ChangeShapes Go.WideShapes Go.ChangeAt Go.RowKit
open kit chain arena

/-- a block that holds the map of symbols alone -/
def Hold (w : World) (gr t g S : Nat) (bk : Nat → Nat) : Prop := w.cell? ⟨gr, 0, none⟩ = some (.slice (some ⟨g, 0, none⟩) S S) ∧ ∀ s, s < S → bk s ≠ gr
def Named (w : World) (g : Nat) (bk : Nat → Nat) (S : Nat) (σ : Tab) (d : Nat) (p r : Ref) (e : Ending) (w' : World) : Prop :=
  e = .returned (.string (symAt σ r).name) ∧ Arena w' g bk S (relink σ (path σ d p) r) ∧ Turn w w' bk S

set_option maxRecDepth 100000 in
set_option maxHeartbeats 4000000 in
theorem nameFor (w : World) (gr g : Nat) (bk : Nat → Nat) (S : Nat) (σ : Tab) (d : Nat) (p r : Ref) (h : Arena w g bk S σ) (hI : Inv w) (hz : ∀ s, s < S → bk s ≠ 0) (hc : Chain S σ d p r) (hP : w.cell? ⟨gr, 0, none⟩ = some (.slice (some ⟨g, 0, none⟩) S S)) (hP2 : ∀ s, s < S → bk s ≠ gr) :
    Calls Tryd.prog 48 #[.pointer (some ⟨gr, 0, none⟩), refV p] w (Named w g bk S σ d p r) := by
  have hvr := hc.root.valid
  have HF := Lib.hid (fun (W : World) (k : Kept w W) => arena.follow g bk S σ r hz d p W (h.kept k) (hI.kept k) hc)
  unfold mapV refV at HF
  have HG := Lib.hid (fun (W : World) (hA : Arena W g bk S (relink σ (path σ d p) r)) => (arena.get W g bk S _ r hA ((relink_valid ..).2 hvr)))
  unfold mapV refV at HG
  have HV := Lib.hid hvr
  have HP2 := Lib.hid hP2
  have HBL := Lib.hid (fun s (hs : s < S) => h.lt hs)
  have hsz := World.block_lt_of_cell? w _ hP
  have hgl := h.outer.lt
  have HC0 := Lib.hid (show w.cell? ⟨gr, 0, none⟩ = some (.slice (some ⟨g, 0, none⟩) S S) from hP)
  clear h hI hz hc hvr hP2
  unfold refV
  go_enter Tryd.func48, Tryd.ntmps48
  go_upto_region 1 with fail
  have hw1 : Kept w (w.alloc (.cells #[.int .u32 (p.1 : Int), .int .u32 (p.2 : Int)] 40)) := (Kept.refl w).alloc _
  have B1 : Hid (Blk (w.alloc (.cells #[.int .u32 (p.1 : Int), .int .u32 (p.2 : Int)] 40)) w.heap.size 40 [.int .u32 (p.1 : Int), .int .u32 (p.2 : Int)]) := Lib.hid (Blk.new w 40 _)
  have HK1 := Lib.hid hw1
  clear hw1
  generalize w.alloc (.cells #[.int .u32 (p.1 : Int), .int .u32 (p.2 : Int)] 40) = w1 at *
  obtain ⟨q, hq⟩ : ∃ q, q = w.heap.size := ⟨_, rfl⟩
  rw [← hq] at B1 HBL hsz hgl ⊢
  have HQ := Lib.hid hq
  clear hq
  have x0 := HK1.out.cell HC0.out
  have x1 : w1.cell? ⟨q, 0, none⟩ = some (.int .u32 (p.1 : Int)) := B1.out.cell 0
  have x2 : w1.cell? ⟨q, 1, none⟩ = some (.int .u32 (p.2 : Int)) := B1.out.cell 1
  clear hP
  go_still_tail 5, (by kernel_rfl)
  change wpList _ _ _ _ _ w1.drew
  have HK2 : Hid (Kept w w1.drew) := Lib.hid HK1.out.drew
  have B2 : Hid (Blk w1.drew q 40 [.int .u32 (p.1 : Int), .int .u32 (p.2 : Int)]) := Lib.hid B1.out.drew
  clear x0 x1 x2 B1 HK1
  generalize w1.drew = w2 at *
  go_wp2_with fail
  refine (HF.out w2 HK2.out).mono ?_
  rintro e w3 ⟨he, hA, hT⟩
  unfold refV at he
  subst he
  have B3 := Lib.hid (hT.blk B2.out (fun s hs => by have := HBL.out s hs; omega))
  have HT3 := Lib.hid ((Turn.of_kept HK2.out bk S).trans hT)
  have HA3 := Lib.hid hA
  clear hA hT HF B2 HK2
  have y1 : w3.cell? ⟨q, 0, none⟩ = some (.int .u32 (p.1 : Int)) := B3.out.cell 0
  have y2 : w3.cell? ⟨q, 1, none⟩ = some (.int .u32 (p.2 : Int)) := B3.out.cell 1
  have z1 := B3.out.free 0
  have z2 := B3.out.free 1
  have B4 : Hid (Blk ((w3.setCell ⟨q, 0, none⟩ (.int .u32 (r.1 : Int))).setCell ⟨q, 1, none⟩ (.int .u32 (r.2 : Int))) q 40 [.int .u32 (r.1 : Int), .int .u32 (r.2 : Int)]) := Lib.hid ((B3.out.set 0 (.int .u32 (r.1 : Int))).set 1 (.int .u32 (r.2 : Int)))
  have HA4 := Lib.hid ((HA3.out.far (a := ⟨q, 0, none⟩) (by show g ≠ q; omega) (fun s hs => by have := HBL.out s hs; show bk s ≠ q; omega) (.int .u32 (r.1 : Int))).far (a := ⟨q, 1, none⟩) (by show g ≠ q; omega) (fun s hs => by have := HBL.out s hs; show bk s ≠ q; omega) (.int .u32 (r.2 : Int)))
  have HT4 := Lib.hid ((HT3.out.setNew (p := ⟨q, 0, none⟩) (by show w.heap.size ≤ q; have := HQ.out; omega) (.int .u32 (r.1 : Int))).setNew (p := ⟨q, 1, none⟩) (by show w.heap.size ≤ q; have := HQ.out; omega) (.int .u32 (r.2 : Int)))
  go_upto_region 2 with fail
  generalize (w3.setCell ⟨q, 0, none⟩ (.int .u32 (r.1 : Int))).setCell ⟨q, 1, none⟩ (.int .u32 (r.2 : Int)) = w4 at *
  clear y1 y2 z1 z2 B3 HA3 HT3
  have x0 := HT4.out.cell HC0.out HP2.out
  have x1 : w4.cell? ⟨q, 0, none⟩ = some (.int .u32 (r.1 : Int)) := B4.out.cell 0
  have x2 : w4.cell? ⟨q, 1, none⟩ = some (.int .u32 (r.2 : Int)) := B4.out.cell 1
  go_still_tail 5, (by kernel_rfl)
  change wpList _ _ _ _ _ w4.drew
  have HA5 := Lib.hid (HA4.out.kept ((Kept.refl w4).drew))
  have HT5 := Lib.hid (HT4.out.drew)
  clear x0 x1 x2 HA4 HT4 B4
  generalize w4.drew = w5 at *
  go_wp2_with fail
  refine (HG.out w5 HA5.out).mono ?_
  rintro e w6 ⟨rfl, k6⟩
  have HA6 := Lib.hid (HA5.out.kept k6)
  have HT6 := Lib.hid (HT5.out.kept k6)
  have hv2 : Valid S (relink σ (path σ d p) r) r := (relink_valid ..).2 HV.out
  have nm : w6.cell? ⟨bk r.1, r.2 * 10 + 1, none⟩ = some (.string (symAt σ r).name) := by
    rw [HA6.out.sym hv2 (by omega), ← relink_name σ (path σ d p) r HV.out]; rfl
  clear k6 HA5 HT5 hv2
  go_wp2_with fail
  go_ret
  exact ⟨rfl, HA6.out, HT6.out⟩
end Go.Proofs.YthjoelmmpmnfeaaDoor.mp
