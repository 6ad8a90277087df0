/-
  'Turn w w2 S': w2 is w but for new blocks and for the blocks that S names; a struct boxed out of a row; Index32's flipped bits.
  Conditions: none.
-/
import Derived.Test.YtgjhmbbbkkidlaaGreatDoorBlk
import Derived.Deep.MidRow
import Derived.Laws.BitsAllLaws
namespace Go.Proofs.YtgjhmbbbkkidlaaGreatDoor.kit
open Go.ChangeShapes Go.WideShapes Go.ChangeAt Go.RowKit

structure Turn (w w2 : World) (S : Nat → Prop) : Prop where
  os : w2.os = w.os
  tape : w2.tape = w.tape
  output : w2.output = w.output
  size : w.heap.size ≤ w2.heap.size
  block : ∀ k, k < w.heap.size → ¬ S k → w2.heap[k]? = w.heap[k]?
section
variable {w w1 w2 : World} {S : Nat → Prop}
theorem Turn.refl (w : World) (S : Nat → Prop) : Turn w w S := ⟨rfl, rfl, rfl, Nat.le_refl _, fun _ _ _ => rfl⟩
theorem Turn.trans (h : Turn w w1 S) (k : Turn w1 w2 S) : Turn w w2 S :=
  ⟨k.os.trans h.os, k.tape.trans h.tape, k.output.trans h.output, Nat.le_trans h.size k.size, fun b hb hn => (k.block b (Nat.lt_of_lt_of_le hb h.size) hn).trans (h.block b hb hn)⟩
theorem Turn.of_kept (h : Kept w w2) (S : Nat → Prop) : Turn w w2 S := ⟨h.os, h.tape, h.output, h.size, fun b hb _ => h.block b hb⟩
theorem Turn.kept (h : Turn w w1 S) (k : Kept w1 w2) : Turn w w2 S := h.trans (Turn.of_kept k S)
theorem Turn.set (h : Turn w w1 S) {p : Addr} (hs : S p.block) (u : Value) : Turn w (w1.setCell p u) S :=
  ⟨h.os, h.tape, h.output, by simpa [World.setCell] using h.size, fun b hb hn => (Below.heap_setCell w1 p u b (fun e => hn (e ▸ hs))).trans (h.block b hb hn)⟩
theorem Turn.setNew (h : Turn w w1 S) {p : Addr} (hp : w.heap.size ≤ p.block) (u : Value) : Turn w (w1.setCell p u) S :=
  ⟨h.os, h.tape, h.output, by simpa [World.setCell] using h.size, fun b hb hn => (Below.heap_setCell w1 p u b (by omega)).trans (h.block b hb hn)⟩
theorem Turn.drewN (h : Turn w w1 S) (n : Nat) : Turn w (w1.drewN n) S := ⟨h.os, h.tape, h.output, h.size, h.block⟩
theorem Turn.drew (h : Turn w w1 S) : Turn w w1.drew S := ⟨h.os, h.tape, h.output, h.size, h.block⟩
theorem Turn.alloc (h : Turn w w1 S) (o : Obj) : Turn w (w1.alloc o) S := h.kept ((Kept.refl _).alloc o)
theorem Turn.below (h : Turn w w2 S) {B : Nat} (hb : ∀ k, S k → B ≤ k) (hB : B ≤ w.heap.size) : Below B w w2 :=
  ⟨h.os, h.tape, h.output, h.size, fun k hk => h.block k (by omega) (fun hs => by have := hb k hs; omega)⟩
theorem Turn.blk (h : Turn w w2 S) {b : Nat} {t : TypeId} {cs : List Value} (hb : Blk w b t cs) (hn : ¬ S b) : Blk w2 b t cs := (h.block b hb.lt hn).trans hb
theorem Turn.cell (h : Turn w w2 S) {a : Addr} {v : Value} (hc : w.cell? a = some v) (hn : ¬ S a.block) : w2.cell? a = some v :=
  (World.cell?_of_block (h.block a.block (World.block_lt_of_cell? w a hc) hn)).trans hc
end

/-- a row's cells, read out of its block -/
theorem Blk.range {w : World} {g : Nat} {t : TypeId} {cs : List Value} (h : Blk w g t cs) (o n : Nat) : w.rangeAt g o ((cs.drop o).take n) := fun j v hv => by
  rw [h.cell]
  rw [List.getElem?_take] at hv
  split at hv
  · rw [List.getElem?_drop] at hv; exact hv
  · cases hv
theorem Kept.setCells {w : World} {b : Nat} : ∀ (vs : List Value) (o : Nat) (w1 : World), Kept w w1 → w.heap.size ≤ b → Kept w (w1.setCells b o vs) := by
  intro vs
  induction vs with
  | nil => intro o w1 h _; exact h
  | cons v r ih => intro o w1 h hb; exact ih (o + 1) _ (h.setCell hb v) hb
/-- a fresh variable of a struct's type, and the struct stored into it -/
theorem boxed (w : World) (T : TypeId) (Z : Array Value) (cs : List Value) (hZ : Z.size = cs.length) :
    Kept w ((w.alloc (.cells Z T)).setCells w.heap.size 0 cs) ∧ ∀ j v, cs[j]? = some v → ((w.alloc (.cells Z T)).setCells w.heap.size 0 cs).cell? ⟨w.heap.size, j, none⟩ = some v := by
  refine ⟨Kept.setCells cs 0 _ ((Kept.refl w).alloc _) (Nat.le_refl _), fun j v hv => ?_⟩
  have hb : Blk (w.alloc (.cells Z T)) w.heap.size T Z.toList := by have := Blk.new w T Z.toList; simpa using this
  have ht : (w.alloc (.cells Z T)).there w.heap.size 0 cs.length := fun i hi => by
    rw [Nat.zero_add]
    exact ⟨by rw [hb.cell, List.getElem?_eq_getElem (by simp; omega)]; rfl, hb.free i⟩
  have := World.rangeAt_setCells_same _ w.heap.size 0 cs ht j v hv
  rwa [Nat.zero_add] at this

theorem there_new (w : World) (T : TypeId) (Z : Array Value) (n : Nat) (h : n ≤ Z.size) : (w.alloc (.cells Z T)).there w.heap.size 0 n := fun i hi => by
  have hb : Blk (w.alloc (.cells Z T)) w.heap.size T Z.toList := by have := Blk.new w T Z.toList; simpa using this
  rw [Nat.zero_add]
  exact ⟨by rw [hb.cell, List.getElem?_eq_getElem (by simp; omega)]; rfl, hb.free i⟩

/-- one element of a slice that reads as a list -/
theorem Row.at_ {α : Type} {f : α → Value} {w : World} {a : Option Addr} {n cap : Nat} {xs : List α} (h : Row w a n cap (xs.map f)) (d : α) {k : Nat} (hk : k < n) :
    ∃ b off, a = some ⟨b, off, none⟩ ∧ b < w.heap.size ∧ w.cell? ⟨b, off + k, none⟩ = some (f (xs.getD k d)) := by
  obtain ⟨b, off, ha, hb, hc⟩ := h.2.2.2.2 (by omega)
  have hl := h.1
  have hk2 : k < xs.length := by simp only [List.length_map] at hl; omega
  exact ⟨b, off, ha, hb, by rw [hc k (by simpa using hk2)]; simp [hk2]⟩

theorem flip32 (a : Int) (h0 : 0 ≤ a) (h1 : a ≤ 4294967295) : bits .xor .u32 IntKind.u32.max a = 4294967295 - a := by
  obtain ⟨n, rfl⟩ := Int.eq_ofNat_of_zero_le h0
  have hn : n < 4294967296 := by omega
  have hm : IntKind.u32.max = ((4294967295 : Nat) : Int) := by decide
  rw [hm, u32_xor_nat _ _ (by decide) hn]
  have : 4294967295 ^^^ n = 4294967295 - n := by
    have h : (BitVec.allOnes 32 ^^^ BitVec.ofNat 32 n).toNat = (~~~ BitVec.ofNat 32 n).toNat := by rw [BitVec.allOnes_xor]
    rw [BitVec.toNat_xor, BitVec.toNat_not] at h
    simp only [BitVec.toNat_allOnes, BitVec.toNat_ofNat, Nat.reducePow, Nat.reduceSub, Nat.mod_eq_of_lt hn] at h
    exact h
  rw [this]; omega
end Go.Proofs.YtgjhmbbbkkidlaaGreatDoor.kit
