/-
  A row of units of the reader's own over this seat's program: made, appended to.
  Conditions: at most 2^40 units.
-/
import Derived.Test.YteoeiklojidgnaaFmtRe
import Derived.Test.YteoeiklojidgnaaFmtBlk
import Derived.Deep.AppendLies
namespace Go.Proofs.YteoeiklojidgnaaFmt.ur
open Go.ChangeShapes Go.WideShapes Go.ChangeAt Go.RowKit
open kit uq

theorem info37 : (Tryf.prog.info? 37).map (fun i => (i.zero, i.size, i.bytes)) = some (some (.int .u16 0), 1, 2) := by kernel_rfl
theorem keptGrown {w a b : World} {row : Option Nat} (h : Kept w a) (g : a.grownBy b row) (hq : ∀ k, row = some k → w.heap.size ≤ k) : Kept w b :=
  ⟨g.os.trans h.os, g.tape.trans h.tape, g.output.trans h.output, Nat.le_trans h.size g.size, fun k hk => (g.block k (Nat.lt_of_lt_of_le hk h.size) (fun e => by have := hq k e.symm; omega)).trans (h.block k hk)⟩
/-- the units lie in a row of the call's own -/
def UN (w0 W : World) (A : Option Addr) (n c : Nat) (L : List Int) : Prop := L.length = n ∧ L.length ≤ 1099511627776 ∧ Kept w0 W ∧ W.ownsRow w0.heap.size 37 1 (.slice A n c) n (L.map (Value.int .u16))
theorem UN.kept {w0 W W2 : World} {A : Option Addr} {n c : Nat} {L : List Int} (h : UN w0 W A n c L) (k : Kept W W2) : UN w0 W2 A n c L := ⟨h.1, h.2.1, h.2.2.1.trans k, own_kept h.2.2.2 k⟩
theorem wp_mk {w0 : World} {ops : Array Oper} {rest : List Oper} {o : Oper} {a : Act} {Q : Exit → Act → World → Prop} (w : World) (hk : Kept w0 w) (hgd : o.guard = none) (l x : Operand) (ho : o.op = .makeSlice 23 l x)
    (C : Int) (n : Nat) (hl : a.eval l = .int .i64 0) (hc : a.eval x = .int .i64 C) (hC : C = (n : Int)) (hn : n ≤ 1099511627776)
    (h : ∀ A c w2, Hid (UN w0 w2 A 0 c []) → wpList Tryf.prog ops Q rest (a.put o.dst (.slice A 0 c)) w2) : wpList Tryf.prog ops Q (o :: rest) a w := by
  obtain ⟨i0, hi, hz0, hz1, hz2⟩ := info_parts info37
  refine wpList_make_own w hgd l x 23 ho w0.heap.size 37 i0 (.int .u16 0) 1 Tryf.underlying23 hi hz0 hz1 .i64 .i64 C n hl hc hC (by rw [hz2]; omega) (by unfold maxLen; omega) hk.size (fun w' h1 h2 => ?_)
  exact h _ _ _ (Lib.hid ⟨rfl, by simp, keptGrown hk h2 (fun k e => by cases e), h1⟩)
theorem cells16 (w : World) (ys : List Int) : ∀ j u, (ys.map (Value.int .u16))[j]? = some u → (w.alloc (.cells (ys.map (Value.int .u16)).toArray 37)).cell? (Addr.add ⟨w.heap.size, 0, none⟩ j) = some u := by
  intro j u hu
  have e : (⟨w.heap.size, 0, none⟩ : Addr).add j = ⟨w.heap.size, j, none⟩ := by
    unfold Addr.add
    by_cases h : j = 0 <;> simp [h]
  rw [e, (Blk.new w 37 _).cell, hu]
theorem wp_unit {w0 : World} {ops : Array Oper} {rest : List Oper} {o : Oper} {a : Act} {Q : Exit → Act → World → Prop} (w : World) (ys : List Int) (hgd : o.guard = none) (sl x : Operand)
    (ho : o.op = .call { callee := .builtin .append, args := #[sl, x], argTypes := #[23, 23] })
    (A : Option Addr) (n c : Nat) (L : List Int) (hs : a.eval sl = .slice A n c) (HS : Hid (UN w0 w A n c L)) (m : Nat) (hx : a.eval x = .slice (some ⟨w.heap.size, 0, none⟩) m m) (hm : ys.length = m) (h0 : 0 < m) (hb : m ≤ 100)
    (h : ∀ A2 n2 c2 w2, Hid (L.length ≤ 1099511627000 → UN w0 w2 A2 n2 c2 (L ++ ys)) → wpList Tryf.prog ops Q rest (a.put o.dst (.slice A2 n2 c2)) w2) :
    wpList Tryf.prog ops Q (o :: rest) a (w.alloc (.cells (ys.map (Value.int .u16)).toArray 37)) := by
  obtain ⟨e, hl, hk, hown⟩ := HS.out
  subst e
  obtain ⟨i0, hi, hz0, hz1, hz2⟩ := info_parts info37
  have hk2 := hk.alloc (.cells (ys.map (Value.int .u16)).toArray 37)
  refine wpList_plain hgd fun K hK => ?_
  refine wp_append_lies (P := Tryf.prog) _ sl x 23 ho w0.heap.size 37 i0 (.int .u16 0) 1 2 Tryf.underlying23 hi hz0 hz1 hz2 rfl (by decide) _ L.length (L.map (Value.int .u16)) hs (own_kept hown ((Kept.refl w).alloc _)) ⟨w.heap.size, 0, none⟩ m m (ys.map (Value.int .u16)) hx (by simpa using hm) (cells16 w ys) ?_ h0 (by unfold maxLen; omega) (by omega) hk2.size _ rfl ?_
  · intro u hu
    obtain ⟨y, _, rfl⟩ := List.mem_map.1 hu
    rfl
  · intro g2 cap w2 hown2 hgrow hat hlt
    have hl2 : L.length + m = (L ++ ys).length := by rw [List.length_append, hm]
    rw [hl2] at hown2 ⊢
    rw [← List.map_append] at hown2
    exact hK _ _ (h _ _ _ _ (Lib.hid fun hb2 => ⟨rfl, by rw [List.length_append]; omega, keptGrown hk2 hgrow (fun k e => (hown.lt k e).1), hown2⟩))
theorem UN.row {w0 W : World} {A : Option Addr} {n c : Nat} {L : List Int} (h : UN w0 W A n c L) : Row W A n c (L.map (Value.int .u16)) := Row.of_own h.2.2.2
end Go.Proofs.YteoeiklojidgnaaFmt.ur
