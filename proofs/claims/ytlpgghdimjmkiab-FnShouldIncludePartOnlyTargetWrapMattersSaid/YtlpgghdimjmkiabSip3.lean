/-
  What the three loops of ZZshouldIncludePartIn leave in memory, over this seat's program.
  Conditions: none.
-/
import Derived.Test.YtlpgghdimjmkiabSip
namespace Go.Proofs.Ytlpgghdimjmkiab.sip
open Go.ChangeShapes Go.WideShapes Go.ChangeAt Go.RowKit
open kit

theorem far {w : World} {b o : Nat} {v : Value} {p : Addr} {u : Value} (h : w.cell? ⟨b, o, none⟩ = some v) (hne : b ≠ p.block ∨ o ≠ p.off) : (w.setCell p u).cell? ⟨b, o, none⟩ = some v := by
  rw [World.cell?_setCell_other w p ⟨b, o, none⟩ u (by rintro rfl; simp at hne)]
  exact h

/-- behind k files: file t's wrap kind -/
structure Fl (w : World) (B n0 t : Nat) (z : Int) (k : Nat) (wr : World) : Prop where
  blk : ∃ cs, Blk wr B 106 cs ∧ cs.length = n0 * 24
  kept : Kept w wr
  hB : B = w.heap.size
  hit : t < k → ∃ jb, B < jb ∧ wr.cell? ⟨B, t * 24 + 2, none⟩ = some (.iface 32 (.pointer (some ⟨jb, 0, none⟩))) ∧ wr.cell? ⟨jb, 11, none⟩ = some (.int .u8 z)
theorem Fl.step {w wr : World} {B n0 t k : Nat} {z x : Int} (h : Fl w B n0 t z k wr) (hk : k < n0) {CS : Array Value} (hCS : CS.size = 64) (hx : t = k → x = z) :
    Fl w B n0 t z (k + 1) ((wr.alloc (.cells (CS.setIfInBounds 11 (.int .u8 x)) 80)).setCell ⟨B, k * 24 + 2, none⟩ (.iface 32 (.pointer (some ⟨wr.heap.size, 0, none⟩)))) := by
  obtain ⟨cs, hb, hl⟩ := h.blk
  have hlt := hb.lt
  refine ⟨⟨_, (hb.alloc _).set (k * 24 + 2) _, by simpa using hl⟩, (h.kept.alloc _).setCell (by rw [h.hB]; exact Nat.le_refl _) _, h.hB, fun ht => ?_⟩
  by_cases e : t = k
  · subst e
    refine ⟨wr.heap.size, hlt, ?_, ?_⟩
    · rw [((hb.alloc _).set (t * 24 + 2) _).cell, List.getElem?_set_self (by omega)]
    · refine far (b := wr.heap.size) (o := 11) ?_ (.inl (by show wr.heap.size ≠ B; omega))
      rw [cell_of_row _ _ 11 _ 80 (0, 0) (heap_alloc_new wr _), hx rfl]
      simp [hCS]
  · obtain ⟨jb, h1, h2, h3⟩ := h.hit (by omega)
    refine ⟨jb, h1, ?_, ?_⟩
    · exact far (((Kept.refl wr).alloc _).cell h2) (.inr (by show t * 24 + 2 ≠ k * 24 + 2; omega))
    · exact far (((Kept.refl wr).alloc _).cell h3) (.inl (by show jb ≠ B; omega))

/-- behind k records: record r's source index -/
structure Rc (w : World) (B n1 r : Nat) (b : Bool) (x : Int) (k : Nat) (wr : World) : Prop where
  blk : ∃ cs, Blk wr B 115 cs ∧ cs.length = n1 * 15 ∧ (r < n1 → cs[r * 15 + 10]? = some (.int .u32 (if r < k ∧ b = true then 4294967295 - x else 0)))
  kept : Kept w wr
  hB : B = w.heap.size
theorem Rc.yes {w wr W : World} {B n1 r k : Nat} {b : Bool} {x y : Int} (h : Rc w B n1 r b x k wr) (hk : k < n1) (hW : Kept wr W) (hx : r = k → y = x ∧ b = true) : Rc w B n1 r b x (k + 1) (W.setCell ⟨B, k * 15 + 10, none⟩ (.int .u32 (4294967295 - y))) := by
  obtain ⟨cs, hb, hl, hr⟩ := h.blk
  refine ⟨⟨_, (hb.kept hW).set (k * 15 + 10) _, by simpa using hl, fun hrn => ?_⟩, (h.kept.trans hW).setCell (by rw [h.hB]; exact Nat.le_refl _) _, h.hB⟩
  by_cases e : r = k
  · obtain ⟨rfl, rfl⟩ := hx e
    subst e
    rw [List.getElem?_set_self (by omega), if_pos ⟨by omega, rfl⟩]
  · rw [List.getElem?_set_ne (by omega), hr hrn]
    by_cases c : r < k ∧ b = true
    · rw [if_pos c, if_pos ⟨by omega, c.2⟩]
    · rw [if_neg c, if_neg (fun c2 => c ⟨by omega, c2.2⟩)]
theorem Rc.no {w wr : World} {B n1 r k : Nat} {b : Bool} {x : Int} (h : Rc w B n1 r b x k wr) (hx : r = k → b = false) : Rc w B n1 r b x (k + 1) wr := by
  obtain ⟨cs, hb, hl, hr⟩ := h.blk
  refine ⟨⟨cs, hb, hl, fun hrn => ?_⟩, h.kept, h.hB⟩
  rw [hr hrn]
  by_cases e : r = k
  · have := hx e
    subst this
    simp
  · by_cases c : r < k ∧ b = true
    · rw [if_pos c, if_pos ⟨by omega, c.2⟩]
    · rw [if_neg c, if_neg (fun c2 => c ⟨by omega, c2.2⟩)]

/-- behind k statements: the first one -/
structure Sm (w : World) (B n3 : Nat) (b : Bool) (x : Int) (k : Nat) (wr : World) : Prop where
  blk : ∃ cs, Blk wr B 126 cs ∧ cs.length = n3 * 2
  kept : Kept w wr
  hB : B = w.heap.size
  yes : 0 < k → b = true → ∃ sb, B < sb ∧ wr.cell? ⟨B, 0, none⟩ = some (.iface 117 (.pointer (some ⟨sb, 0, none⟩))) ∧ wr.cell? ⟨sb, 5, none⟩ = some (.int .u32 x)
  no : 0 < k → b = false → ∃ v, wr.cell? ⟨B, 0, none⟩ = some (.iface 127 v)
theorem Sm.step {w wr : World} {B n3 k : Nat} {b : Bool} {x : Int} (h : Sm w B n3 b x k wr) (hk : k < n3) (cs2 : Array Value) (T I : TypeId) (hy : k = 0 → b = true → I = 117 ∧ cs2[5]? = some (.int .u32 x)) (hn : k = 0 → b = false → I = 127) :
    Sm w B n3 b x (k + 1) ((wr.alloc (.cells cs2 T)).setCell ⟨B, k * 2, none⟩ (.iface I (.pointer (some ⟨wr.heap.size, 0, none⟩)))) := by
  obtain ⟨cs, hb, hl⟩ := h.blk
  have hlt := hb.lt
  refine ⟨⟨_, (hb.alloc _).set (k * 2) _, by simpa using hl⟩, (h.kept.alloc _).setCell (by rw [h.hB]; exact Nat.le_refl _) _, h.hB, fun _ hbt => ?_, fun _ hbf => ?_⟩
  · by_cases e : k = 0
    · obtain ⟨rfl, h5⟩ := hy e hbt
      subst e
      refine ⟨wr.heap.size, hlt, ?_, ?_⟩
      · rw [((hb.alloc _).set (0 * 2) _).cell, Nat.zero_mul, List.getElem?_set_self (by omega)]
      · refine far (b := wr.heap.size) (o := 5) ?_ (.inl (by show wr.heap.size ≠ B; omega))
        rw [cell_of_row _ _ 5 _ T (0, 0) (heap_alloc_new wr _), h5]
    · obtain ⟨sb, h1, h2, h3⟩ := h.yes (by omega) hbt
      exact ⟨sb, h1, far (((Kept.refl wr).alloc _).cell h2) (.inr (by show 0 ≠ k * 2; omega)), far (((Kept.refl wr).alloc _).cell h3) (.inl (by show sb ≠ B; omega))⟩
  · by_cases e : k = 0
    · obtain rfl := hn e hbf
      subst e
      exact ⟨_, by rw [((hb.alloc _).set (0 * 2) _).cell, Nat.zero_mul, List.getElem?_set_self (by omega)]⟩
    · obtain ⟨v, h1⟩ := h.no (by omega) hbf
      exact ⟨v, far (((Kept.refl wr).alloc _).cell h1) (.inr (by show 0 ≠ k * 2; omega))⟩

/-- the answer -/
def inc (zs : List Int) (bs : List Bool) (ts : List Int) (n3 : Nat) (is : List Bool) (rs : List Int) : Bool :=
  !(decide (n3 = 1) && is.getD 0 false && bs.getD (rs.getD 0 0).toNat false && (zs.getD (ts.getD (rs.getD 0 0).toNat 0).toNat 0 == 0))
end Go.Proofs.Ytlpgghdimjmkiab.sip
