/-
  NewNoOpRenamer and the printer's mangledPropName over this seat's program.
  Conditions: the chain from the ref ends; ast.InvalidRef holds its initial value.
-/
import Derived.Test.YthjoelmmpmnfeaaDoorNm
namespace Go.Proofs.YthjoelmmpmnfeaaDoor.mp
open Go.ChangeShapes Go.WideShapes Go.ChangeAt Go.RowKit
open kit chain arena
open Go.Maps (Keyed)
open Go.ChangeMaps (setBlock)

theorem renamer (w : World) (g S : Nat) : Calls Tryd.prog 16 #[mapV g S] w fun e w' => ∃ gr, e = .returned (.iface 95 (.pointer (some ⟨gr, 0, none⟩))) ∧ Blk w' gr 97 [.slice (some ⟨g, 0, none⟩) S S] ∧ w.heap.size ≤ gr ∧ Kept w w' := by
  unfold mapV
  go_enter Tryd.func16, Tryd.ntmps16
  go_wp2_with fail
  go_ret
  refine ⟨w.heap.size + 1, rfl, ?_, by omega, ((Kept.refl _).alloc _).alloc _⟩
  have := Blk.new (w.alloc (.cells #[.slice (some ⟨g, 0, none⟩) S S] 34)) 97 [.slice (some ⟨g, 0, none⟩) S S]
  simpa using this
/-- the printer in block gp -/
structure Prn (w : World) (gp gr mb g S : Nat) (bk : Nat → Nat) (f : Value → Option Value) : Prop where
  syms : w.cell? ⟨gp, 0, none⟩ = some (.slice (some ⟨g, 0, none⟩) S S)
  ren : w.cell? ⟨gp, 2, none⟩ = some (.iface 95 (.pointer (some ⟨gr, 0, none⟩)))
  props : w.cell? ⟨gp, 15, none⟩ = some (.map (some mb))
  hold : w.cell? ⟨gr, 0, none⟩ = some (.slice (some ⟨g, 0, none⟩) S S)
  map : ∃ m, mapf.MapF Tryd.prog 40 w mb m f
  nep : ∀ s, s < S → bk s ≠ gp
  ner : ∀ s, s < S → bk s ≠ gr
  nem : ∀ s, s < S → bk s ≠ mb
theorem Prn.turn {w w2 : World} {gp gr mb g S : Nat} {bk : Nat → Nat} {f : Value → Option Value} (h : Prn w gp gr mb g S bk f) (t : Turn w w2 bk S) : Prn w2 gp gr mb g S bk f := by
  obtain ⟨m, hm⟩ := h.map
  exact ⟨t.cell h.syms h.nep, t.cell h.ren h.nep, t.cell h.props h.nep, t.cell h.hold h.ner, ⟨m, hm.of_block (t.block mb hm.lt h.nem)⟩, h.nep, h.ner, h.nem⟩
def Got (w : World) (bk : Nat → Nat) (S : Nat) (x : ByteArray) (e : Ending) (w' : World) : Prop := e = .returned (.string x) ∧ Turn w w' bk S

set_option maxRecDepth 100000 in
set_option maxHeartbeats 8000000 in
theorem mangled (w : World) (gp gr mb g : Nat) (bk : Nat → Nat) (S : Nat) (σ : Tab) (d : Nat) (p : Ref) (rr : Nat) (f : Value → Option Value) (x : ByteArray) (h : Arena w g bk S σ) (hI : Inv w) (hz : ∀ s, s < S → bk s ≠ 0) (hc : Chain S σ d p (0, rr)) (hP : Prn w gp gr mb g S bk f)
    (hr2 : rr ≤ 4294967295) (hx : f (key rr) = some (.string x) ∨ (f (key rr) = none ∧ x = (symAt σ (0, rr)).name)) :
    Calls Tryd.prog 17 #[.pointer (some ⟨gp, 0, none⟩), refV p] w (Got w bk S x) := by
  have hvr := hc.root.valid
  have HF := Lib.hid (fun (W : World) (k : Kept w W) => arena.follow g bk S σ (0, rr) hz d p W (h.kept k) (hI.kept k) hc)
  unfold mapV refV at HF
  obtain ⟨e2, hc2⟩ := hc.after hc.root (by intro e; have := congrArg Prod.fst e; simp [inv] at this)
  have HN := Lib.hid (fun (W : World) (hA : Arena W g bk S (relink σ (path σ d p) (0, rr))) (hi : Inv W) (hp : Prn W gp gr mb g S bk f) => nameFor W gr g bk S _ e2 (0, rr) (0, rr) hA hi hz hc2 hp.hold hp.ner)
  unfold refV at HN
  have HV := Lib.hid hvr
  have HPr := Lib.hid hP
  have HII := Lib.hid (fun (W : World) (t : Turn w W bk S) => t.inv hI hz)
  have HBL := Lib.hid (fun s (hs : s < S) => h.lt hs)
  have hsz := World.block_lt_of_cell? w _ hP.syms
  have hgl := h.outer.lt
  have HX := Lib.hid hx
  clear h hI hz hc hvr hP hc2 hx
  unfold refV
  go_enter Tryd.func17, Tryd.ntmps17
  go_upto_region 1 with fail
  have hw1 : Kept w (w.alloc (.cells #[.int .u32 (p.1 : Int), .int .u32 (p.2 : Int)] 40)) := (Kept.refl w).alloc _
  have B1 : Hid (Blk (w.alloc (.cells #[.int .u32 (p.1 : Int), .int .u32 (p.2 : Int)] 40)) w.heap.size 40 [.int .u32 (p.1 : Int), .int .u32 (p.2 : Int)]) := Lib.hid (Blk.new w 40 _)
  have HK1 := Lib.hid hw1
  clear hw1
  generalize w.alloc (.cells #[.int .u32 (p.1 : Int), .int .u32 (p.2 : Int)] 40) = w1 at *
  obtain ⟨q, hq⟩ : ∃ q, q = w.heap.size := ⟨_, rfl⟩
  rw [← hq] at B1 HBL hsz hgl ⊢
  have HQ := Lib.hid hq
  clear hq
  have x0 := HK1.out.cell HPr.out.syms
  have x1 : w1.cell? ⟨q, 0, none⟩ = some (.int .u32 (p.1 : Int)) := B1.out.cell 0
  have x2 : w1.cell? ⟨q, 1, none⟩ = some (.int .u32 (p.2 : Int)) := B1.out.cell 1
  go_still_tail 5, (by kernel_rfl)
  change wpList _ _ _ _ _ w1.drew
  have HK2 : Hid (Kept w w1.drew) := Lib.hid HK1.out.drew
  have B2 : Hid (Blk w1.drew q 40 [.int .u32 (p.1 : Int), .int .u32 (p.2 : Int)]) := Lib.hid B1.out.drew
  clear x0 x1 x2 B1 HK1
  generalize w1.drew = w2 at *
  go_wp2_with fail
  refine (HF.out w2 HK2.out).mono ?_
  rintro e w3 ⟨he, hA, hT⟩
  unfold refV at he
  subst he
  have B3 := Lib.hid (hT.blk B2.out (fun s hs => by have := HBL.out s hs; omega))
  have HT3 := Lib.hid ((Turn.of_kept HK2.out bk S).trans hT)
  have HA3 := Lib.hid hA
  clear hA hT HF B2 HK2
  have y1 : w3.cell? ⟨q, 0, none⟩ = some (.int .u32 (p.1 : Int)) := B3.out.cell 0
  have y2 : w3.cell? ⟨q, 1, none⟩ = some (.int .u32 (p.2 : Int)) := B3.out.cell 1
  have z1 := B3.out.free 0
  have z2 := B3.out.free 1
  have B4 : Hid (Blk ((w3.setCell ⟨q, 0, none⟩ (.int .u32 0)).setCell ⟨q, 1, none⟩ (.int .u32 (rr : Int))) q 40 [.int .u32 0, .int .u32 (rr : Int)]) := Lib.hid ((B3.out.set 0 (.int .u32 0)).set 1 (.int .u32 (rr : Int)))
  have HA4 := Lib.hid ((HA3.out.far (a := ⟨q, 0, none⟩) (by show g ≠ q; omega) (fun s hs => by have := HBL.out s hs; show bk s ≠ q; omega) (.int .u32 0)).far (a := ⟨q, 1, none⟩) (by show g ≠ q; omega) (fun s hs => by have := HBL.out s hs; show bk s ≠ q; omega) (.int .u32 (rr : Int)))
  have HT4 := Lib.hid ((HT3.out.setNew (p := ⟨q, 0, none⟩) (by show w.heap.size ≤ q; have := HQ.out; omega) (.int .u32 0)).setNew (p := ⟨q, 1, none⟩) (by show w.heap.size ≤ q; have := HQ.out; omega) (.int .u32 (rr : Int)))
  go_upto_region 2 with fail
  generalize (w3.setCell ⟨q, 0, none⟩ (.int .u32 0)).setCell ⟨q, 1, none⟩ (.int .u32 (rr : Int)) = w4 at *
  clear y1 y2 z1 z2 B3 HA3 HT3
  have HP4 := Lib.hid (HPr.out.turn HT4.out)
  have x0 := HP4.out.props
  have x1 : w4.cell? ⟨q, 0, none⟩ = some (.int .u32 0) := B4.out.cell 0
  have x2 : w4.cell? ⟨q, 1, none⟩ = some (.int .u32 (rr : Int)) := B4.out.cell 1
  obtain ⟨kl, hkl⟩ := key40 rr hr2
  obtain ⟨m, hm⟩ := HP4.out.map
  have hlk : ∀ W : World, W.heap = w4.heap → (Instr.lookup 36 (.map (some mb)) (.agg #[.int .u32 0, .int .u32 (rr : Int)]) true).run Tryd.prog W = .ok (.tuple #[(f (key rr)).getD (.string ByteArray.empty), .bool (f (key rr)).isSome]) W := fun W hW =>
    mapf.MapF.look (hm.of_block (by rw [hW])) K40 Tryd.underlying36 (z := .string ByteArray.empty) (by kernel_rfl) hkl true
  have hl1 := hlk w4.drew rfl
  have hl2 := fun n => hlk (w4.drewN n) rfl
  have hl3 := hlk w4 rfl
  rcases HX.out with hx | ⟨hx, rfl⟩
  · rw [hx] at hl1 hl2 hl3
    simp only [Option.getD_some, Option.isSome_some] at hl1 hl2 hl3
    clear hlk hm hkl hx HX
    go_quiet (fail)
    go_wp2_with fail
    go_ret
    exact ⟨rfl, HT4.out.drewN _⟩
  · rw [hx] at hl1 hl2 hl3
    simp only [Option.getD_none, Option.isSome_none] at hl1 hl2 hl3
    clear hlk hm hkl hx HX
    go_quiet (fail)
    clear hl1 hl2 hl3 x0 x1 x2
    have kk := (Kept.refl w4).drewN nq
    have HT5 := Lib.hid (HT4.out.drewN nq)
    have HA5 := Lib.hid (HA4.out.kept kk)
    have B5 := Lib.hid (B4.out.kept kk)
    clear HT4 HA4 B4 HP4 kk
    generalize w4.drewN nq = w5 at *
    go_upto_region 5 with fail
    have HP5 := Lib.hid (HPr.out.turn HT5.out)
    have x0 := HP5.out.ren
    have x1 : w5.cell? ⟨q, 0, none⟩ = some (.int .u32 0) := B5.out.cell 0
    have x2 : w5.cell? ⟨q, 1, none⟩ = some (.int .u32 (rr : Int)) := B5.out.cell 1
    go_still_tail 5, (by kernel_rfl)
    change wpList _ _ _ _ _ w5.drew
    have HT6 := Lib.hid (HT5.out.drew)
    have HA6 := Lib.hid (HA5.out.kept ((Kept.refl w5).drew))
    clear x0 x1 x2 HT5 HA5 HP5 B5
    generalize w5.drew = w6 at *
    have HP6 := Lib.hid (HPr.out.turn HT6.out)
    have HC := Lib.hid (HN.out w6 HA6.out (HII.out w6 HT6.out) HP6.out)
    have hme : ∀ W : World, (method 317 95 (.pointer (some ⟨gr, 0, none⟩)) "NameForSymbol").run Tryd.prog W = .ok (48, .pointer (some ⟨gr, 0, none⟩)) W := fun W => by kernel_rfl
    go_wp2_with fail
    refine HC.out.mono ?_
    rintro e w7 ⟨rfl, _, hT7⟩
    have HT7 := Lib.hid (HT6.out.trans hT7)
    rw [relink_name σ _ (0, rr) HV.out]
    clear hT7 HC
    go_wp2_with fail
    go_ret
    exact ⟨rfl, HT7.out⟩
end Go.Proofs.YthjoelmmpmnfeaaDoor.mp
