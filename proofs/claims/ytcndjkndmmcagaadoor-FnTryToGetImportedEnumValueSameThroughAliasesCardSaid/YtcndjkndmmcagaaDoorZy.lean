/-
  ZZtryToGetImportedEnumValueOfImport over this seat's program.
  Conditions: the chain from the ref ends; ast.InvalidRef holds its initial value.
-/
import Derived.Test.YtcndjkndmmcagaaDoorTg
import Derived.Laws.Tables
namespace Go.Proofs.YtcndjkndmmcagaaDoor.mp
open Go.ChangeShapes Go.WideShapes Go.ChangeAt Go.RowKit
open kit chain arena

theorem zero105 : ∃ ZC : Array Value, (∀ W, (zeroValue 105).run Tryd.prog W = .ok (.agg ZC) W) ∧ ZC.size = 139 := by
  have h : (Tryd.prog.info? 105).map (fun i => i.zero.map (fun z => match z with | .agg cs => cs.size | _ => 0)) = some (some 139) := by kernel_rfl
  obtain ⟨i, hi, hh⟩ := Option.map_eq_some_iff.1 h
  obtain ⟨z, hz, hz2⟩ := Option.map_eq_some_iff.1 hh
  match z, hz2 with
  | .agg cs, hz2 =>
    refine ⟨cs, fun W => ?_, hz2⟩
    unfold zeroValue
    rw [Sem.run_bind, run_typeInfo W hi]
    simp only [Result.andThen, hz]
    rfl
theorem newAt (w : World) (A : Array Value) (t i : Nat) : (w.alloc (.cells A t)).cell? ⟨w.heap.size, i, none⟩ = A[i]? := by
  have hb : Blk (w.alloc (.cells A t)) w.heap.size t A.toList := by have := Blk.new w t A.toList; simpa using this
  rw [hb.cell, Array.getElem?_toList]
def C1 (w1 : World) (M g S : Nat) (t10 : Value) (W : World) : Prop := ∃ gp, t10 = .pointer (some ⟨gp, 0, none⟩) ∧ Kept w1 W ∧ w1.heap.size ≤ gp ∧ W.cell? ⟨gp, 0, none⟩ = some (.slice (some ⟨g, 0, none⟩) S S) ∧ W.cell? ⟨gp, 13, none⟩ = some (.map (some M))
theorem c1_of {w1 : World} {M g S : Nat} {A : Array Value} (h0 : A[0]? = some (.slice (some ⟨g, 0, none⟩) S S)) (h13 : A[13]? = some (.map (some M))) : C1 w1 M g S (.pointer (some ⟨w1.heap.size, 0, none⟩)) (w1.alloc (.cells A 105)) :=
  ⟨_, rfl, (Kept.refl _).alloc _, Nat.le_refl _, by rw [newAt]; exact h0, by rw [newAt]; exact h13⟩
set_option maxRecDepth 100000 in
set_option maxHeartbeats 8000000 in
theorem zz (w : World) (M g : Nat) (bk : Nat → Nat) (S : Nat) (σ : Tab) (d : Nat) (p : Ref) (rr : Nat) (F : Value → Option Value) (nm : ByteArray) (a0 : Option Addr) (n0 c0 x : Nat) (ok : Bool) (h : Arena w g bk S σ) (hI : Inv w) (hz : ∀ s, s < S → bk s ≠ 0) (hc : Chain S σ d p (0, rr)) (hm : ∃ m, mapf.MapF Tryd.prog 50 w M m F) (hnem : ∀ s, s < S → bk s ≠ M)
    (hr2 : rr ≤ 4294967295) (hns : nm.size ≤ 1048576) (hx : Ans w S bk F rr (symAt σ (0, rr)).kind nm (.agg #[.slice a0 n0 c0, .float .f64 x]) ok) :
    Calls Tryd.prog 15 #[mapV g S, .map (some M), refV p, .string nm] w (Got w bk S (.agg #[.slice a0 n0 c0, .float .f64 x]) ok g (relink σ (path σ d p) (0, rr))) := by
  have HT := Lib.hid (fun (W : World) (k : Kept w W) (gp ge : Nat) (hP : Prn W gp M g S bk F) (q0 : W.cell? ⟨ge, 0, none⟩ = some (.int .u32 (p.1 : Int))) (q1 : W.cell? ⟨ge, 1, none⟩ = some (.int .u32 (p.2 : Int))) (qe : ∀ s, s < S → bk s ≠ ge) =>
    tryGet W gp ge M g bk S σ d p rr F nm a0 n0 c0 x ok (h.kept k) (hI.kept k) hz hc hP q0 q1 qe hr2 hns (hx.turn (Turn.of_kept k bk S)))
  have HBL := Lib.hid (show g < w.heap.size ∧ ∀ s, s < S → bk s < w.heap.size from ⟨h.outer.lt, fun s hs => h.lt hs⟩)
  have HMF := Lib.hid hm
  have HNE := Lib.hid hnem
  generalize relink σ (path σ d p) (0, rr) = τ at *
  clear h hI hz hc hm hnem hr2 hns hx
  obtain ⟨ZC, hzc, hzs⟩ := zero105
  have hzn : ¬ ZC = #[] := fun e => by rw [e] at hzs; simp at hzs
  unfold mapV refV
  go_enter Tryd.func15, Tryd.ntmps15
  go_upto_region 1 with fail
  obtain ⟨w1, hw1⟩ : ∃ w1, w1 = ((w.alloc (.cells #[.slice (some ⟨g, 0, none⟩) S S] 39)).alloc (.cells #[.int .u32 (p.1 : Int), .int .u32 (p.2 : Int)] 50)).alloc (.cells #[.slice none 0 0, .float .f64 0] 46) := ⟨_, rfl⟩
  have K1 : Hid (Kept w w1) := Lib.hid (by rw [hw1]; exact (((Kept.refl w).alloc _).alloc _).alloc _)
  have x0 : w1.cell? ⟨w.heap.size, 0, none⟩ = some (.slice (some ⟨g, 0, none⟩) S S) := by
    rw [hw1]
    exact (((Blk.new w 39 [.slice (some ⟨g, 0, none⟩) S S]).alloc _).alloc _).cell 0
  have hb1 : Blk w1 (w.heap.size + 1) 50 [.int .u32 (p.1 : Int), .int .u32 (p.2 : Int)] := by
    rw [hw1]
    have := (Blk.new (w.alloc (.cells #[.slice (some ⟨g, 0, none⟩) S S] 39)) 50 [.int .u32 (p.1 : Int), .int .u32 (p.2 : Int)]).alloc (.cells #[.slice none 0 0, .float .f64 0] 46)
    simpa using this
  have hb2 : Blk w1 (w.heap.size + 2) 46 [.slice none 0 0, .float .f64 0] := by
    rw [hw1]
    have := Blk.new ((w.alloc (.cells #[.slice (some ⟨g, 0, none⟩) S S] 39)).alloc (.cells #[.int .u32 (p.1 : Int), .int .u32 (p.2 : Int)] 50)) 46 [.slice none 0 0, .float .f64 0]
    simpa using this
  rw [← hw1]
  clear hw1
  generalize hq : w.heap.size + 2 = q at *
  have HQ := Lib.hid (show w.heap.size ≤ q by omega)
  have HB1 := Lib.hid hb1
  have HB2 := Lib.hid hb2
  have x1 : w1.cell? ⟨w.heap.size + 1, 0, none⟩ = some (.int .u32 (p.1 : Int)) := hb1.cell 0
  have x2 : w1.cell? ⟨w.heap.size + 1, 1, none⟩ = some (.int .u32 (p.2 : Int)) := hb1.cell 1
  clear hb1 hb2 hq
  go_cut [10] (fun t10 W => Hid (C1 w1 M g S t10 W))
  case first =>
    go_wp2_with fail
    go_meet
    exact Lib.hid (c1_of (by simp [Array.getElem?_setIfInBounds, hzs]) (by simp [Array.getElem?_setIfInBounds, hzs]))
  case rest =>
    obtain ⟨gp, rfl, kW, hgp, q0, q13⟩ := hcut.out
    have KW := Lib.hid (K1.out.trans kW)
    have x1' := kW.cell x1
    have x2' := kW.cell x2
    have HB2' := Lib.hid (HB2.out.kept kW)
    have HP : Hid (Prn wc gp M g S bk F) := Lib.hid ⟨q0, q13, by obtain ⟨m, hm⟩ := HMF.out; exact ⟨m, hm.kept KW.out⟩, fun s hs => by have := HBL.out.2 s hs; have := K1.out.size; omega, HNE.out⟩
    clear q0 q13 kW hcut x0 x1 x2 hzc hzs hzn HB1 HB2
    have hsf : ∀ (W : World) (a : Addr) (b : Nat), (store a (.float .f64 b)).run Tryd.prog W = stored Tryd.prog W a (.float .f64 b) .plain := fun W a b => run_store Tryd.prog W a _ .plain rfl
    have k4 : Kept wc (wc.alloc (.cells #[.int .u32 (p.1 : Int), .int .u32 (p.2 : Int), .bool false, .bool false] 109)) := (Kept.refl _).alloc _
    have HC := Lib.hid (HT.out _ (KW.out.trans k4) gp wc.heap.size (HP.out.turn (Turn.of_kept k4 bk S)) (newAt wc _ 109 0) (newAt wc _ 109 1) (fun s hs => by have := HBL.out.2 s hs; have := KW.out.size; omega))
    have K4 := Lib.hid (KW.out.trans k4)
    have HB4 := Lib.hid (HB2'.out.kept k4)
    clear k4 HT HB2' HP KW
    go_wp2_with fail
    refine HC.out.mono ?_
    rintro e w5 ⟨rfl, hT, hA⟩
    have HT5 := Lib.hid ((Turn.of_kept K4.out bk S).trans hT)
    have HA5 := Lib.hid hA
    have hl := HBL.out
    have HR5 : Hid (Blk w5 q 46 [.slice none 0 0, .float .f64 0]) := Lib.hid (hT.blk HB4.out (fun s hs => by have := hl.2 s hs; have := HQ.out; omega))
    clear hl hT hA HC HB4 K4
    have r0 : w5.cell? ⟨q, 0, none⟩ = some (.slice none 0 0) := HR5.out.cell 0
    have r1 : w5.cell? ⟨q, 1, none⟩ = some (.float .f64 0) := HR5.out.cell 1
    have f0 := HR5.out.free 0
    have f1 := HR5.out.free 1
    go_wp2_with fail
    have BZ := ((HR5.out.set 0 (.slice a0 n0 c0)).set 1 (.float .f64 x))
    have e0 := BZ.cell 0
    have e1 := BZ.cell 1
    refine bodyPost_ret (v := .tuple #[.agg #[.slice a0 n0 c0, .float .f64 x], .bool ok]) (by simp [results, Tryd.results15, go_sem, e0, e1]) rfl ?_
    have hl := HBL.out
    have hle := HQ.out
    refine ⟨rfl, (HT5.out.setNew (by show _ ≤ q; omega) _).setNew (by show _ ≤ q; omega) _, ?_⟩
    refine (HA5.out.far ?_ ?_ _).far ?_ ?_ _
    · show g ≠ q; omega
    · intro s hs; have := hl.2 s hs; show bk s ≠ q; omega
    · show g ≠ q; omega
    · intro s hs; have := hl.2 s hs; show bk s ≠ q; omega
end Go.Proofs.YtcndjkndmmcagaaDoor.mp
