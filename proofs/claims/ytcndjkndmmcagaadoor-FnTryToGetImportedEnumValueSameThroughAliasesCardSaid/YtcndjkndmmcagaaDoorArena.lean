/-
  The symbol map in memory over this seat's program: rows of symbols behind a row of slices; what Get answers.
  Conditions: none.
-/
import Derived.Test.YtcndjkndmmcagaaDoorBlk
import Derived.Test.YtcndjkndmmcagaaDoorChain
import Derived.Deep.QuietTactic
import Derived.BigQuiet
import Derived.Laws.StructEq
namespace Go.Proofs.YtcndjkndmmcagaaDoor.arena
open Go.ChangeShapes Go.WideShapes Go.ChangeAt Go.RowKit
open kit chain

def cells1 (x : Sym) : List Value := [.pointer none, .string x.name, .int .u32 (x.la : Int), .int .u32 (x.lb : Int), .int .u32 (x.use : Int), .int .u32 0, .int .u32 0, .int .u16 (x.flags : Int), .int .u8 (x.kind : Int), .int .u8 0]
def cellsOf (l : List Sym) : List Value := l.flatMap cells1
theorem cellsOf_cons (x : Sym) (l : List Sym) : cellsOf (x :: l) = cells1 x ++ cellsOf l := rfl
theorem cellsOf_at (l : List Sym) (k i : Nat) (hk : k < l.length) (hi : i < 10) : (cellsOf l)[k * 10 + i]? = (cells1 (l.getD k zeroSym))[i]? := by
  induction l generalizing k with
  | nil => simp at hk
  | cons x r ih =>
    rw [cellsOf_cons]
    cases k with
    | zero => rw [List.getElem?_append_left (by simp [cells1]; omega)]; simp
    | succ k =>
      have hl : (cells1 x).length = 10 := rfl
      rw [List.getElem?_append_right (by omega), hl]
      have e : (k + 1) * 10 + i - 10 = k * 10 + i := by omega
      rw [e, ih k (by simpa using hk)]
      simp
theorem cellsOf_length (l : List Sym) : (cellsOf l).length = l.length * 10 := by
  induction l with
  | nil => rfl
  | cons x r ih => rw [cellsOf_cons, List.length_append, ih]; simp [cells1]; omega
theorem cellsOf_set (l : List Sym) (k i : Nat) (v : Value) (y : Sym) (hk : k < l.length) (hi : i < 10) (hy : (cells1 (l.getD k zeroSym)).set i v = cells1 y) : (cellsOf l).set (k * 10 + i) v = cellsOf (l.set k y) := by
  induction l generalizing k with
  | nil => simp at hk
  | cons x r ih =>
    have hl : (cells1 x).length = 10 := rfl
    cases k with
    | zero =>
      rw [List.set_cons_zero, cellsOf_cons, cellsOf_cons, List.set_append_left _ _ (by omega)]
      simp at hy ⊢
      rw [hy]
    | succ k =>
      rw [List.set_cons_succ, cellsOf_cons, cellsOf_cons, List.set_append_right _ _ (by omega), hl]
      have e : (k + 1) * 10 + i - 10 = k * 10 + i := by omega
      rw [e, ih k (by simpa using hk) (by simpa using hy)]

def rows (S : Nat) (bk : Nat → Nat) (σ : Tab) : List Value := (List.range S).map fun s => Value.slice (some ⟨bk s, 0, none⟩) (σ s).length (σ s).length
structure Arena (w : World) (g : Nat) (bk : Nat → Nat) (S : Nat) (σ : Tab) : Prop where
  outer : Blk w g 56 (rows S bk σ)
  inner : ∀ s, s < S → Blk w (bk s) 65 (cellsOf (σ s))
  apart : ∀ s t, s < S → t < S → bk s = bk t → s = t
  fit : S ≤ 1048576 ∧ ∀ s, (σ s).length ≤ 1048576

theorem Arena.ne {w : World} {g : Nat} {bk : Nat → Nat} {S : Nat} {σ : Tab} (h : Arena w g bk S σ) {s : Nat} (hs : s < S) : g ≠ bk s := h.outer.apart (h.inner s hs) (by decide)
/-- what a step on the map may turn: the rows of symbols alone -/
structure Turn (w w2 : World) (bk : Nat → Nat) (S : Nat) : Prop where
  os : w2.os = w.os
  tape : w2.tape = w.tape
  output : w2.output = w.output
  size : w.heap.size ≤ w2.heap.size
  block : ∀ k, k < w.heap.size → (∀ s, s < S → bk s ≠ k) → w2.heap[k]? = w.heap[k]?
section
variable {w w1 w2 : World} {bk : Nat → Nat} {S g : Nat} {σ : Tab}
theorem Turn.refl (w : World) (bk : Nat → Nat) (S : Nat) : Turn w w bk S := ⟨rfl, rfl, rfl, Nat.le_refl _, fun _ _ _ => rfl⟩
theorem Turn.trans (h : Turn w w1 bk S) (k : Turn w1 w2 bk S) : Turn w w2 bk S :=
  ⟨k.os.trans h.os, k.tape.trans h.tape, k.output.trans h.output, Nat.le_trans h.size k.size, fun b hb hn => (k.block b (Nat.lt_of_lt_of_le hb h.size) hn).trans (h.block b hb hn)⟩
theorem Turn.of_kept (h : Kept w w2) (bk : Nat → Nat) (S : Nat) : Turn w w2 bk S := ⟨h.os, h.tape, h.output, h.size, fun b hb _ => h.block b hb⟩
theorem Turn.kept (h : Turn w w1 bk S) (k : Kept w1 w2) : Turn w w2 bk S := h.trans (Turn.of_kept k bk S)
theorem Turn.setSym (h : Turn w w1 bk S) {s : Nat} (hs : s < S) (i : Nat) (u : Value) : Turn w (w1.setCell ⟨bk s, i, none⟩ u) bk S :=
  ⟨h.os, h.tape, h.output, by simpa [World.setCell] using h.size, fun b hb hn => (Below.heap_setCell w1 ⟨bk s, i, none⟩ u b (fun e => hn s hs e.symm)).trans (h.block b hb hn)⟩
theorem Turn.setNew (h : Turn w w1 bk S) {p : Addr} (hp : w.heap.size ≤ p.block) (u : Value) : Turn w (w1.setCell p u) bk S :=
  ⟨h.os, h.tape, h.output, by simpa [World.setCell] using h.size, fun b hb hn => (Below.heap_setCell w1 p u b (by omega)).trans (h.block b hb hn)⟩
theorem Turn.drewN (h : Turn w w1 bk S) (n : Nat) : Turn w (w1.drewN n) bk S := ⟨h.os, h.tape, h.output, h.size, h.block⟩
theorem Turn.drew (h : Turn w w1 bk S) : Turn w w1.drew bk S := ⟨h.os, h.tape, h.output, h.size, h.block⟩
theorem Turn.alloc (h : Turn w w1 bk S) (o : Obj) : Turn w (w1.alloc o) bk S := h.kept ((Kept.refl _).alloc o)
theorem Turn.below (h : Turn w w2 bk S) {B : Nat} (hb : ∀ s, s < S → B ≤ bk s) (hB : B ≤ w.heap.size) : Below B w w2 :=
  ⟨h.os, h.tape, h.output, h.size, fun k hk => h.block k (by omega) (fun s hs e => by have := hb s hs; omega)⟩
theorem Turn.blk (h : Turn w w2 bk S) {b : Nat} {t : TypeId} {cs : List Value} (hb : Blk w b t cs) (hn : ∀ s, s < S → bk s ≠ b) : Blk w2 b t cs := (h.block b hb.lt hn).trans hb
theorem Turn.cell (h : Turn w w2 bk S) {a : Addr} {v : Value} (hc : w.cell? a = some v) (hn : ∀ s, s < S → bk s ≠ a.block) : w2.cell? a = some v :=
  (World.cell?_of_block (h.block a.block (World.block_lt_of_cell? w a hc) hn)).trans hc
theorem Arena.kept (h : Arena w g bk S σ) (k : Kept w w2) : Arena w2 g bk S σ := ⟨h.outer.kept k, fun s hs => (h.inner s hs).kept k, h.apart, h.fit⟩
theorem Arena.lt (h : Arena w g bk S σ) {s : Nat} (hs : s < S) : bk s < w.heap.size := (h.inner s hs).lt
theorem Arena.row (h : Arena w g bk S σ) {s : Nat} (hs : s < S) : w.cell? ⟨g, s, none⟩ = some (.slice (some ⟨bk s, 0, none⟩) (σ s).length (σ s).length) := by
  rw [h.outer.cell, rows, List.getElem?_map, List.getElem?_range hs]; rfl
theorem Arena.sym (h : Arena w g bk S σ) {p : Ref} (hp : Valid S σ p) {i : Nat} (hi : i < 10) : w.cell? ⟨bk p.1, p.2 * 10 + i, none⟩ = (cells1 (symAt σ p))[i]? := by
  rw [(h.inner p.1 hp.1).cell, cellsOf_at _ _ _ hp.2 hi]; rfl
theorem Arena.free (h : Arena w g bk S σ) {p : Ref} (hp : Valid S σ p) (i : Nat) : w.frozen? ⟨bk p.1, i, none⟩ = false := (h.inner p.1 hp.1).free i
/-- a symbol's link written -/
theorem Arena.put (h : Arena w g bk S σ) {p : Ref} (hp : Valid S σ p) (r : Ref) : Arena ((w.setCell ⟨bk p.1, p.2 * 10 + 2, none⟩ (.int .u32 (r.1 : Int))).setCell ⟨bk p.1, p.2 * 10 + 3, none⟩ (.int .u32 (r.2 : Int))) g bk S (put σ p r) := by
  have hlen : ∀ s, (chain.put σ p r s).length = (σ s).length := put_length σ p r
  have hne := h.ne hp.1
  refine ⟨?_, fun s hs => ?_, h.apart, h.fit.1, fun s => by rw [hlen]; exact h.fit.2 s⟩
  · have e : rows S bk (chain.put σ p r) = rows S bk σ := by simp only [rows, hlen]
    rw [e]
    exact (h.outer.far hne _).far hne _
  · by_cases hsp : s = p.1
    · subst hsp
      have e : chain.put σ p r p.1 = (σ p.1).set p.2 (setL (symAt σ p) r) := by simp [chain.put]
      rw [e]
      have h1 := (h.inner p.1 hp.1).set (p.2 * 10 + 2) (.int .u32 (r.1 : Int))
      rw [cellsOf_set (σ p.1) p.2 2 _ { symAt σ p with la := r.1 } hp.2 (by omega) rfl] at h1
      have h2 := h1.set (p.2 * 10 + 3) (.int .u32 (r.2 : Int))
      rw [cellsOf_set _ p.2 3 _ (setL (symAt σ p) r) (by rw [List.length_set]; exact hp.2) (by omega) (by
        have e3 : ((σ p.1).set p.2 { symAt σ p with la := r.1 }).getD p.2 zeroSym = { symAt σ p with la := r.1 } := by simp [hp.2]
        rw [e3]; rfl), List.set_set] at h2
      exact h2
    · have e : chain.put σ p r s = σ s := by simp [chain.put, hsp]
      rw [e]
      have hb : bk s ≠ bk p.1 := fun e => hsp (h.apart s p.1 hs hp.1 e)
      exact ((h.inner s hs).far hb _).far hb _
end

theorem Arena.link2 {w : World} {g : Nat} {bk : Nat → Nat} {S : Nat} {σ : Tab} (h : Arena w g bk S σ) {p : Ref} (hp : Valid S σ p) : w.cell? ⟨bk p.1, p.2 * 10 + 2, none⟩ = some (.int .u32 ((lnk σ p).1 : Int)) := by rw [h.sym hp (by omega)]; rfl
theorem Arena.link3 {w : World} {g : Nat} {bk : Nat → Nat} {S : Nat} {σ : Tab} (h : Arena w g bk S σ) {p : Ref} (hp : Valid S σ p) : w.cell? ⟨bk p.1, p.2 * 10 + 3, none⟩ = some (.int .u32 ((lnk σ p).2 : Int)) := by rw [h.sym hp (by omega)]; rfl
theorem eqIn (W : World) (a b c d : Int) : (Op.equalIn 10000 50 (.agg #[.int .u32 a, .int .u32 b]) (.agg #[.int .u32 c, .int .u32 d])).run Tryd.prog W = .ok (a == c && b == d) W := by
  by_cases h1 : a = c
  · subst h1
    by_cases h2 : b = d
    · subst h2
      go_simp
    · have h3 : (b == d) = false := by simpa using h2
      go_simp
  · have h3 : (a == c) = false := by simpa using h1
    go_simp
theorem eqRef (W : World) (p r : Ref) : (binOp .eql 50 (.agg #[.int .u32 (p.1 : Int), .int .u32 (p.2 : Int)]) (.agg #[.int .u32 (r.1 : Int), .int .u32 (r.2 : Int)])).run Tryd.prog W = .ok (.bool (decide (p = r))) W := by
  rw [run_eql_struct, eqIn]
  have e : (((p.1 : Int) == (r.1 : Int)) && ((p.2 : Int) == (r.2 : Int))) = decide (p = r) := by
    rw [Bool.eq_iff_iff]; simp [Prod.ext_iff]; omega
  rw [e]; rfl
theorem neRef (W : World) (p r : Ref) : (binOp .neq 50 (.agg #[.int .u32 (p.1 : Int), .int .u32 (p.2 : Int)]) (.agg #[.int .u32 (r.1 : Int), .int .u32 (r.2 : Int)])).run Tryd.prog W = .ok (.bool (!decide (p = r))) W := by
  rw [run_neq_struct, eqIn]
  have e : (((p.1 : Int) == (r.1 : Int)) && ((p.2 : Int) == (r.2 : Int))) = decide (p = r) := by
    rw [Bool.eq_iff_iff]; simp [Prod.ext_iff]; omega
  rw [e]; rfl
def refV (p : Ref) : Value := .agg #[.int .u32 (p.1 : Int), .int .u32 (p.2 : Int)]
def mapV (g S : Nat) : Value := .agg #[.slice (some ⟨g, 0, none⟩) S S]

set_option maxHeartbeats 1000000 in
theorem get (w : World) (g : Nat) (bk : Nat → Nat) (S : Nat) (σ : Tab) (p : Ref) (h : Arena w g bk S σ) (hp : Valid S σ p) :
    Calls Tryd.prog 25 #[mapV g S, refV p] w fun e w' => e = .returned (.pointer (some ⟨bk p.1, p.2 * 10, none⟩)) ∧ Kept w w' := by
  have hrow := h.row hp.1
  obtain ⟨p1, p2⟩ := p
  obtain ⟨hp1, hp2⟩ := hp
  have hlt := h.outer.lt
  have hf := h.fit
  have hn : (σ p1).length ≤ 1048576 := hf.2 p1
  have hS : S ≤ 1048576 := hf.1
  clear h hf
  simp only at hp1 hp2 hrow
  generalize (σ p1).length = n at *
  generalize bk p1 = b at *
  have i1 : (p1 : Int) < (S : Int) := by omega
  have i2 : (p2 : Int) < (n : Int) := by omega
  have i3 : (0 : Int) ≤ (p1 : Int) := by omega
  have i4 : (0 : Int) ≤ (p2 : Int) := by omega
  unfold mapV refV
  go_enter Tryd.func25, Tryd.ntmps25
  go_wp2
  go_quiet (fail)
  go_wp2
  go_ret
  exact ⟨rfl, (((Kept.refl _).alloc _).alloc _).drewN _⟩
end Go.Proofs.YtcndjkndmmcagaaDoor.arena
