/-
  ZZmangledPropName over this seat's program.
  Conditions: the chain from the ref ends; ast.InvalidRef holds its initial value.
-/
import Derived.Test.YthjoelmmpmnfeaaDoorMn
import Derived.Laws.Tables
namespace Go.Proofs.YthjoelmmpmnfeaaDoor.mp
open Go.ChangeShapes Go.WideShapes Go.ChangeAt Go.RowKit
open kit chain arena

theorem opts (mb : Nat) : ∃ A, Tryd.prog.built 70 [(3, .map (some mb))] = some A ∧ A.size = 25 ∧ A[3]? = some (.map (some mb)) := by
  obtain ⟨A, h1, h2⟩ := Option.map_eq_some_iff.1 (show (Tryd.prog.built 70 [(3, .map (some mb))]).map (fun A => (A.size, A[3]?)) = some (25, some (.map (some mb))) by kernel_rfl)
  simp only [Prod.mk.injEq] at h2
  exact ⟨A, h1, h2⟩
theorem zero93 : ∃ ZC : Array Value, (∀ W, (zeroValue 93).run Tryd.prog W = .ok (.agg ZC) W) ∧ ZC.size = 139 := by
  have h : (Tryd.prog.info? 93).map (fun i => i.zero.map (fun z => match z with | .agg cs => cs.size | _ => 0)) = some (some 139) := by kernel_rfl
  obtain ⟨i, hi, hh⟩ := Option.map_eq_some_iff.1 h
  obtain ⟨z, hz, hz2⟩ := Option.map_eq_some_iff.1 hh
  match z, hz2 with
  | .agg cs, hz2 =>
    refine ⟨cs, fun W => ?_, hz2⟩
    unfold zeroValue
    rw [Sem.run_bind, run_typeInfo W hi]
    simp only [Result.andThen, hz]
    rfl
def C13 (w : World) (mb g S : Nat) (p : Ref) (t7 : Value) (W : World) : Prop := ∃ gp gr, t7 = .pointer (some ⟨gp, 0, none⟩) ∧ Kept w W ∧ w.heap.size ≤ gp ∧ w.heap.size ≤ gr ∧ W.cell? ⟨gp, 0, none⟩ = some (.slice (some ⟨g, 0, none⟩) S S) ∧ W.cell? ⟨gp, 2, none⟩ = some (.iface 95 (.pointer (some ⟨gr, 0, none⟩))) ∧
  W.cell? ⟨gp, 15, none⟩ = some (.map (some mb)) ∧ W.cell? ⟨gr, 0, none⟩ = some (.slice (some ⟨g, 0, none⟩) S S) ∧ W.cell? ⟨w.heap.size + 1, 0, none⟩ = some (.int .u32 (p.1 : Int)) ∧ W.cell? ⟨w.heap.size + 1, 1, none⟩ = some (.int .u32 (p.2 : Int))
theorem newAt (w : World) (A : Array Value) (t i : Nat) : (w.alloc (.cells A t)).cell? ⟨w.heap.size, i, none⟩ = A[i]? := by
  have hb : Blk (w.alloc (.cells A t)) w.heap.size t A.toList := by have := Blk.new w t A.toList; simpa using this
  rw [hb.cell, Array.getElem?_toList]
theorem c13_of {w w1 w2 : World} {mb g S gr : Nat} {p : Ref} {A : Array Value} (k1 : Kept w w1) (k2 : Kept w1 w2) (hle : w1.heap.size ≤ gr) (hb : Blk w2 gr 97 [.slice (some ⟨g, 0, none⟩) S S]) (b1 : Blk w1 (w.heap.size + 1) 40 [.int .u32 (p.1 : Int), .int .u32 (p.2 : Int)])
    (a0 : A[0]? = some (.slice (some ⟨g, 0, none⟩) S S)) (a2 : A[2]? = some (.iface 95 (.pointer (some ⟨gr, 0, none⟩)))) (a15 : A[15]? = some (.map (some mb))) : C13 w mb g S p (.pointer (some ⟨w2.heap.size, 0, none⟩)) (w2.alloc (.cells A 93)) := by
  have kk := (Kept.refl w2).alloc (.cells A 93)
  have b2 := (b1.kept k2).kept kk
  have s1 := k1.size
  have s2 := k2.size
  exact ⟨_, gr, rfl, (k1.trans k2).trans kk, by omega, by omega, by rw [newAt]; exact a0, by rw [newAt]; exact a2, by rw [newAt]; exact a15, (hb.kept kk).cell 0, b2.cell 0, b2.cell 1⟩
set_option maxRecDepth 100000 in
set_option maxHeartbeats 8000000 in
theorem zz (w : World) (mb g : Nat) (bk : Nat → Nat) (S : Nat) (σ : Tab) (d : Nat) (p : Ref) (rr : Nat) (f : Value → Option Value) (x : ByteArray) (h : Arena w g bk S σ) (hI : Inv w) (hz : ∀ s, s < S → bk s ≠ 0) (hc : Chain S σ d p (0, rr)) (hm : ∃ m, mapf.MapF Tryd.prog 40 w mb m f) (hnem : ∀ s, s < S → bk s ≠ mb)
    (hr2 : rr ≤ 4294967295) (hx : f (key rr) = some (.string x) ∨ (f (key rr) = none ∧ x = (symAt σ (0, rr)).name)) :
    Calls Tryd.prog 13 #[mapV g S, .map (some mb), refV p] w (Got w bk S x) := by
  have HM := Lib.hid (fun (W : World) (k : Kept w W) (gp gr : Nat) (hP : Prn W gp gr mb g S bk f) => mangled W gp gr mb g bk S σ d p rr f x (h.kept k) (hI.kept k) hz hc hP hr2 hx)
  unfold refV at HM
  have HBL := Lib.hid (fun s (hs : s < S) => h.lt hs)
  have HMF := Lib.hid hm
  have HNE := Lib.hid hnem
  clear h hI hz hc hm hnem hr2 hx
  obtain ⟨ZC, hzc, hzs⟩ := zero93
  have hzn : ¬ ZC = #[] := fun e => by rw [e] at hzs; simp at hzs
  unfold mapV refV
  go_enter Tryd.func13, Tryd.ntmps13
  go_upto_region 1 with fail
  obtain ⟨w1, hw1⟩ : ∃ w1, w1 = (w.alloc (.cells #[.slice (some ⟨g, 0, none⟩) S S] 34)).alloc (.cells #[.int .u32 (p.1 : Int), .int .u32 (p.2 : Int)] 40) := ⟨_, rfl⟩
  have K1 : Hid (Kept w w1) := Lib.hid (by rw [hw1]; exact ((Kept.refl w).alloc _).alloc _)
  have B1 : Hid (Blk w1 (w.heap.size + 1) 40 [.int .u32 (p.1 : Int), .int .u32 (p.2 : Int)]) := Lib.hid (by
    rw [hw1]
    have := Blk.new (w.alloc (.cells #[.slice (some ⟨g, 0, none⟩) S S] 34)) 40 [.int .u32 (p.1 : Int), .int .u32 (p.2 : Int)]
    simpa using this)
  have x0 : w1.cell? ⟨w.heap.size, 0, none⟩ = some (.slice (some ⟨g, 0, none⟩) S S) := by
    rw [hw1]
    exact ((Blk.new w 34 [.slice (some ⟨g, 0, none⟩) S S]).alloc _).cell 0
  rw [← hw1]
  clear hw1
  have HR := Lib.hid (fun W => renamer W g S)
  unfold mapV at HR
  go_cut [7] (fun t7 W => Hid (C13 w mb g S p t7 W))
  case first =>
    go_region_with (go_at_call 16; refine (HR.out _).mono ?_; rintro e w2 ⟨gr, rfl, hb, hle, k2⟩; have x1 := ((Kept.refl w1).drew.trans k2).cell x0)
    all_goals
      go_wp2_with fail
      go_meet
      exact Lib.hid (c13_of K1.out ((Kept.refl w1).drew.trans k2) hle hb B1.out (by simp [Array.getElem?_setIfInBounds, hzs]) (by simp [Array.getElem?_setIfInBounds, hzs]) (by simp [Array.getElem?_setIfInBounds, hzs]))
  case rest =>
    obtain ⟨gp, gr, rfl, kW, hgp, hgr, q0, q2, q15, qr, r0, r1⟩ := hcut.out
    obtain ⟨m, hm⟩ := HMF.out
    have HC := Lib.hid (HM.out wc kW gp gr ⟨q0, q2, q15, qr, ⟨m, hm.kept kW⟩, fun s hs => by have := HBL.out s hs; omega, fun s hs => by have := HBL.out s hs; omega, HNE.out⟩)
    have HKW := Lib.hid kW
    clear q0 q2 q15 qr hm kW hcut x0
    go_wp2_with fail
    refine HC.out.mono ?_
    rintro e w4 ⟨rfl, hT⟩
    have HT := Lib.hid ((Turn.of_kept HKW.out bk S).trans hT)
    clear hT HC
    go_wp2_with fail
    go_ret
    exact ⟨rfl, HT.out⟩
end Go.Proofs.YthjoelmmpmnfeaaDoor.mp
