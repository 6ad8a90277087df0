/-
  n011_236's zzCell over this seat's program: it hands out a copy of the symbol at a ref.
  Conditions: the ref is in range.
-/
import Derived.Test.YticcbjgjjmmbcaaDoorArena
import Derived.StillTailTactics
import Derived.Deep.MidRow
import Derived.Outline
namespace Go.Proofs.YticcbjgjjmmbcaaDoor.arena
open Go.ChangeShapes Go.WideShapes Go.ChangeAt Go.RowKit
open kit chain

def symV (x : Sym) : Value := .agg #[.pointer none, .string x.name, .int .u32 (x.la : Int), .int .u32 (x.lb : Int), .int .u32 (x.use : Int), .int .u32 0, .int .u32 0, .int .u16 (x.flags : Int), .int .u8 (x.kind : Int), .int .u8 0]

theorem keptCells {w : World} {b : Nat} : ∀ (vs : List Value) (o : Nat) (w1 : World), Kept w w1 → w.heap.size ≤ b → Kept w (w1.setCells b o vs) := by
  intro vs
  induction vs with
  | nil => intro o w1 h _; exact h
  | cons v r ih => intro o w1 h hb; exact ih (o + 1) _ (h.setCell hb v) hb
theorem sizeSym : (Tryd.prog.info? 57).map (·.size) = some 10 := by kernel_rfl

set_option maxRecDepth 100000 in
set_option maxHeartbeats 4000000 in
theorem cellC (w : World) (g : Nat) (bk : Nat → Nat) (S : Nat) (σ : Tab) (p : Ref) (h : Arena w g bk S σ) (hp : Valid S σ p) :
    Calls Tryd.prog 21 #[mapV g S, refV p] w fun e w' => e = .returned (symV (symAt σ p)) ∧ Kept w w' := by
  have hrow := h.row hp.1
  have s0 : w.cell? ⟨bk p.1, p.2 * 10, none⟩ = _ := h.sym hp (i := 0) (by omega)
  have s1 := h.sym hp (i := 1) (by omega)
  have s2 := h.sym hp (i := 2) (by omega)
  have s3 := h.sym hp (i := 3) (by omega)
  have s4 := h.sym hp (i := 4) (by omega)
  have s5 := h.sym hp (i := 5) (by omega)
  have s6 := h.sym hp (i := 6) (by omega)
  have s7 := h.sym hp (i := 7) (by omega)
  have s8 := h.sym hp (i := 8) (by omega)
  have s9 := h.sym hp (i := 9) (by omega)
  simp only [cells1, List.getElem?_cons_zero, List.getElem?_cons_succ] at s0 s1 s2 s3 s4 s5 s6 s7 s8 s9
  have hbl := h.lt hp.1
  unfold symV
  generalize symAt σ p = x at *
  obtain ⟨p1, p2⟩ := p
  obtain ⟨hp1, hp2⟩ := hp
  have hlt := h.outer.lt
  have hf := h.fit
  have hn : (σ p1).length ≤ 1048576 := hf.2 p1
  have hS : S ≤ 1048576 := hf.1
  clear h hf
  simp only at hp1 hp2 hrow s0 s1 s2 s3 s4 s5 s6 s7 s8 s9 hbl
  generalize (σ p1).length = n at *
  generalize bk p1 = b at *
  obtain ⟨nm, la, lb, us, fl, kd⟩ := x
  simp only at s0 s1 s2 s3 s4 s5 s6 s7 s8 s9 ⊢
  have i1 : (p1 : Int) < (S : Int) := by omega
  have i2 : (p2 : Int) < (n : Int) := by omega
  have i3 : (0 : Int) ≤ (p1 : Int) := by omega
  have i4 : (0 : Int) ≤ (p2 : Int) := by omega
  unfold mapV refV
  go_enter Tryd.func21, Tryd.ntmps21
  go_wp2_with fail
  obtain ⟨W, hW, hk, c0, c1, c2, B⟩ : ∃ W, W = ((w.alloc (.cells #[.slice (some ⟨g, 0, none⟩) S S] 39)).alloc (.cells #[.int .u32 (p1 : Int), .int .u32 (p2 : Int)] 44)).alloc (.cells #[.pointer none, .string ⟨#[]⟩, .int .u32 0, .int .u32 0, .int .u32 0, .int .u32 0, .int .u32 0, .int .u16 0, .int .u8 0, .int .u8 0] 57) ∧ Kept w W ∧ W.cell? ⟨w.heap.size, 0, none⟩ = some (.slice (some ⟨g, 0, none⟩) S S) ∧ W.cell? ⟨w.heap.size + 1, 0, none⟩ = some (.int .u32 (p1 : Int)) ∧ W.cell? ⟨w.heap.size + 1, 1, none⟩ = some (.int .u32 (p2 : Int)) ∧ Blk W (w.heap.size + 2) 57 (cells1 zeroSym) := by
    refine ⟨_, rfl, (((Kept.refl _).alloc _).alloc _).alloc _, ?_, ?_, ?_, ?_⟩
    · exact (((Blk.new w 39 [.slice (some ⟨g, 0, none⟩) S S]).alloc _).alloc _).cell 0
    · have := ((Blk.new (w.alloc (.cells #[.slice (some ⟨g, 0, none⟩) S S] 39)) 44 [.int .u32 (p1 : Int), .int .u32 (p2 : Int)]).alloc (.cells #[.pointer none, .string ⟨#[]⟩, .int .u32 0, .int .u32 0, .int .u32 0, .int .u32 0, .int .u32 0, .int .u16 0, .int .u8 0, .int .u8 0] 57)).cell 0
      simpa using this
    · have := ((Blk.new (w.alloc (.cells #[.slice (some ⟨g, 0, none⟩) S S] 39)) 44 [.int .u32 (p1 : Int), .int .u32 (p2 : Int)]).alloc (.cells #[.pointer none, .string ⟨#[]⟩, .int .u32 0, .int .u32 0, .int .u32 0, .int .u32 0, .int .u32 0, .int .u16 0, .int .u8 0, .int .u8 0] 57)).cell 1
      simpa using this
    · have := Blk.new ((w.alloc (.cells #[.slice (some ⟨g, 0, none⟩) S S] 39)).alloc (.cells #[.int .u32 (p1 : Int), .int .u32 (p2 : Int)] 44)) 57 (cells1 zeroSym)
      simpa [cells1, zeroSym] using this
  rw [← hW]
  have hrow' := hk.cell hrow
  have t0 := hk.cell s0
  have t1 := hk.cell s1
  have t2 := hk.cell s2
  have t3 := hk.cell s3
  have t4 := hk.cell s4
  have t5 := hk.cell s5
  have t6 := hk.cell s6
  have t7 := hk.cell s7
  have t8 := hk.cell s8
  have t9 := hk.cell s9
  have HK := Lib.hid hk
  have HB := Lib.hid B
  clear hW hk B s0 s1 s2 s3 s4 s5 s6 s7 s8 s9 hrow
  generalize hq : w.heap.size = q at *
  have HQ := Lib.hid hq
  clear hq
  go_still_tail 10, (by kernel_rfl)
  change wpList _ _ _ _ _ W.drew
  generalize hwd : W.drew = W2 at *
  have HK2 : Hid (Kept w W2) := Lib.hid (hwd ▸ HK.out.drew)
  have HB2 : Hid (Blk W2 (q + 2) 57 (cells1 zeroSym)) := Lib.hid (hwd ▸ HB.out.drew)
  clear hwd
  clear t0 t1 t2 t3 t4 t5 t6 t7 t8 t9 hrow' c0 c1 c2
  have hth : W2.there (q + 1 + 1) 0 10 := fun j hj => by
    have hj2 : j < (cells1 zeroSym).length := hj
    have e : (0 + j) = j := by omega
    rw [e]
    exact ⟨by rw [show q + 1 + 1 = q + 2 from rfl, HB2.out.cell j, List.getElem?_eq_getElem hj2]; rfl, HB2.out.free j⟩
  refine wpList_store_mid rfl 57 _ _ rfl (q + 1 + 1) 0 #[.pointer none, .string nm, .int .u32 (la : Int), .int .u32 (lb : Int), .int .u32 (us : Int), .int .u32 0, .int .u32 0, .int .u16 (fl : Int), .int .u8 (kd : Int), .int .u8 0] rfl rfl hth sizeSym (by simp [Value.oneCell']) ?_
  have hr := World.rangeAt_setCells_same W2 (q + 1 + 1) 0 [.pointer none, .string nm, .int .u32 (la : Int), .int .u32 (lb : Int), .int .u32 (us : Int), .int .u32 0, .int .u32 0, .int .u16 (fl : Int), .int .u8 (kd : Int), .int .u8 0] hth
  have hk3 := keptCells (b := q + 1 + 1) [.pointer none, .string nm, .int .u32 (la : Int), .int .u32 (lb : Int), .int .u32 (us : Int), .int .u32 0, .int .u32 0, .int .u16 (fl : Int), .int .u8 (kd : Int), .int .u8 0] 0 W2 HK2.out (by have := HQ.out; omega)
  show wpList _ _ _ _ _ (W2.setCells (q + 1 + 1) 0 [.pointer none, .string nm, .int .u32 (la : Int), .int .u32 (lb : Int), .int .u32 (us : Int), .int .u32 0, .int .u32 0, .int .u16 (fl : Int), .int .u8 (kd : Int), .int .u8 0])
  generalize W2.setCells (q + 1 + 1) 0 [.pointer none, .string nm, .int .u32 (la : Int), .int .u32 (lb : Int), .int .u32 (us : Int), .int .u32 0, .int .u32 0, .int .u16 (fl : Int), .int .u8 (kd : Int), .int .u8 0] = W3 at *
  have HLD := Lib.hid (run_loadVar_mid (P := Tryd.prog) W3 (q + 1 + 1) 0 57 _ _ hr Tryd.underlying57 rfl sizeSym)
  have HK3 := Lib.hid hk3
  clear hr hk3 hth
  go_wp2_with fail
  have hload := HLD.out
  exact bodyPost_ret (v := .agg #[.pointer none, .string nm, .int .u32 (la : Int), .int .u32 (lb : Int), .int .u32 (us : Int), .int .u32 0, .int .u32 0, .int .u16 (fl : Int), .int .u8 (kd : Int), .int .u8 0]) (by simp [results, Tryd.results21, Act.put, asAddr, hload]) rfl ⟨rfl, HK3.out⟩
end Go.Proofs.YticcbjgjjmmbcaaDoor.arena
