/-
  The law's walk over this seat's program: it answers true.
  Conditions: ast.InvalidRef reads as the program's text lays it.
-/
import Derived.Test.YtilhckihpgfkfaaDoorSr
import Derived.Test.YtilhckihpgfkfaaDoorSl
import Derived.Deep.Slices
import Derived.Test.YtilhckihpgfkfaaDoorSm
namespace Go.Proofs.YtilhckihpgfkfaaDoor.sr
open Go.ChangeShapes Go.WideShapes Go.ChangeAt Go.RowKit
open kit

/-- the prefix: k statements, each a bare expression at its own place -/
structure Pq (w W : World) (n k : Nat) : Prop where
  kept : Kept w W
  row : ∃ cs, Blk W w.heap.size 34 cs ∧ cs.length = n * 2 ∧ ∀ i, i < k → ∃ v, cs[i * 2]? = some v ∧ cs[i * 2 + 1]? = some (.int .i32 (-1 - (i : Int))) ∧ BareE W v ∧ v.oneCell' = true
section
variable {w W W2 : World} {n k : Nat}
theorem Pq.kept2 (h : Pq w W n k) (kk : Kept W W2) : Pq w W2 n k := by
  obtain ⟨cs, hb, hl, hc⟩ := h.row
  exact ⟨h.kept.trans kk, cs, hb.kept kk, hl, fun i hi => by obtain ⟨v, h1, h2, h3, h4⟩ := hc i hi; exact ⟨v, h1, h2, h3.kept kk, h4⟩⟩
theorem Pq.lim (hk : k < n) : k * 2 + 2 ≤ n * 2 := by have := Nat.mul_le_mul_right 2 (show k + 1 ≤ n by omega); omega
theorem Pq.there (h : Pq w W n k) (hk : k < n) : W.there w.heap.size (k * 2) 2 := by
  obtain ⟨cs, hb, hl, _⟩ := h.row
  exact hb.there (by rw [hl]; exact Pq.lim hk)
theorem BareE.far {b T : Nat} {cs : List Value} {o : Nat} {v : Value} (h : BareE W v) (hb : Blk W b T cs) (hT : T ≠ 205) (vs : List Value) : BareE (W.setCells b o vs) v := by
  obtain ⟨p, js, e, h1, h2⟩ := h
  exact ⟨p, js, e, Blk.setCellsFar (h1.apart hb hT.symm) vs o W js h1, h2⟩
theorem Pq.step (h : Pq w W n k) (hk : k < n) (v : Value) (hv : BareE W v) (h1 : v.oneCell' = true) : Pq w (W.setCells w.heap.size (k * 2) [v, .int .i32 (-1 - (k : Int))]) n (k + 1) := by
  obtain ⟨cs, hb, hl, hc⟩ := h.row
  obtain ⟨cs2, h2, l2, a2, b2⟩ := Blk.setCells [v, .int .i32 (-1 - (k : Int))] (k * 2) W cs hb (by rw [hl]; exact Pq.lim hk)
  refine ⟨Kept.setCells _ _ _ h.kept (Nat.le_refl _), cs2, h2, l2.trans hl, fun i hi => ?_⟩
  by_cases e : i = k
  · subst e
    exact ⟨v, b2 0 (by simp), b2 1 (by simp), hv.far hb (by decide) _, h1⟩
  · obtain ⟨v0, g0, g1, g2, g3⟩ := hc i (by omega)
    exact ⟨v0, (a2 _ (by omega)).trans g0, (a2 _ (by omega)).trans g1, g2.far hb (by decide) _, g3⟩
end
/-- the list that the law starts from -/
def Good (W : World) (l : List (Value × Int)) : Prop := ∀ i, i < l.length → (l.getD i (.nilIface, 0)).2 = -1 - (i : Int) ∧ BareE W (l.getD i (.nilIface, 0)).1
theorem Pq.fin {w W : World} {n : Nat} (h : Pq w W n n) (hn : n ≤ 65535) : ∃ l : List (Value × Int), l.length = n ∧ Wk W w.heap.size 34 2 sc (.slice (some ⟨w.heap.size, 0, none⟩) n n) l ∧ Good W l := by
  obtain ⟨cs, hb, hl, hc⟩ := h.row
  have hf : ∀ i, i < n → ∃ v, cs[i * 2]? = some v ∧ cs[i * 2 + 1]? = some (.int .i32 (-1 - (i : Int))) ∧ BareE W v ∧ v.oneCell' = true := hc
  obtain ⟨f, hf2⟩ := Go.Deep.choose_lt hf
  have hcs : ((List.range n).map (fun i => (f i, (-1 - (i : Int))))).flatMap sc = cs := by
    apply List.ext_getElem?
    intro k
    have key : ∀ m, m ≤ n → ∀ k, (((List.range m).map (fun i => (f i, (-1 - (i : Int))))).flatMap sc)[k]? = if k < m * 2 then cs[k]? else none := by
      intro m
      induction m with
      | zero => intro _ k; simp
      | succ m ih =>
        intro hm k
        have hlen : (((List.range m).map (fun i => (f i, (-1 - (i : Int))))).flatMap sc).length = m * 2 := by rw [flat_len (size := 2) (fun _ => rfl)]; simp
        rw [List.range_succ, List.map_append, List.flatMap_append]
        by_cases hk : k < m * 2
        · rw [List.getElem?_append_left (by omega), ih (by omega) k, if_pos hk, if_pos (by omega)]
        · rw [List.getElem?_append_right (by omega), hlen]
          obtain ⟨g0, g1, _⟩ := hf2 m (by omega)
          by_cases e0 : k = m * 2
          · subst e0; rw [if_pos (by omega), g0]; simp [sc]
          · by_cases e1 : k = m * 2 + 1
            · subst e1; rw [if_pos (by omega), g1]; simp [sc]
            · rw [if_neg (by omega)]
              have : 2 ≤ k - m * 2 := by omega
              simp [sc]; omega
    rw [key n (Nat.le_refl _) k]
    split
    · rfl
    · rw [List.getElem?_eq_none (by omega)]
  refine ⟨(List.range n).map (fun i => (f i, (-1 - (i : Int)))), by simp, ⟨⟨_, _, by simp; exact ⟨rfl, rfl⟩⟩, ?_⟩, fun i hi => ?_⟩
  · rw [hcs]
    refine ⟨by simp [hl], Or.inr ⟨w.heap.size, n, cs.toArray, by simp, Nat.le_refl _, hb, by simp, by unfold maxLen; omega, by simp [hl], ?_⟩⟩
    rw [List.take_of_length_le]; simp [hl]
  · have hi2 : i < n := by simpa using hi
    obtain ⟨_, _, g2, _⟩ := hf2 i hi2
    simp [hi2]
    exact g2
theorem kept_turn {w w1 w2 : World} {S : Nat → Prop} (k : Kept w w1) (t : kit.Turn w1 w2 S) (hS : ∀ b, S b → w.heap.size ≤ b) : Kept w w2 := ⟨t.os.trans k.os, t.tape.trans k.tape, t.output.trans k.output, Nat.le_trans k.size t.size, fun b hb => (t.block b (Nat.lt_of_lt_of_le hb k.size) (fun s => absurd (hS b s) (by omega))).trans (k.block b hb)⟩
theorem flat_sc : ∀ (l : List (Value × Int)) (k : Nat), k < l.length → (l.flatMap sc)[k * 2]? = some (l.getD k (.nilIface, 0)).1 ∧ (l.flatMap sc)[k * 2 + 1]? = some (.int .i32 (l.getD k (.nilIface, 0)).2)
  | x :: l, 0, _ => by simp [sc]
  | x :: l, k + 1, h => by
    have := flat_sc l k (by simpa using h)
    rw [show (k + 1) * 2 = k * 2 + 1 + 1 by omega]
    simpa [sc, List.flatMap_cons] using this
theorem wkAt2 {W : World} {base : Nat} {t : Value} {l : List (Value × Int)} (h : Wk W base 34 2 sc t l) {k : Nat} (hk : k < l.length) : ∃ g c, t = .slice (some ⟨g, 0, none⟩) l.length c ∧ l.length ≤ c ∧ c ≤ maxLen ∧ W.cell? ⟨g, k * 2, none⟩ = some (l.getD k (.nilIface, 0)).1 ∧ W.cell? ⟨g, k * 2 + 1, none⟩ = some (.int .i32 (l.getD k (.nilIface, 0)).2) := by
  obtain ⟨f0, f1⟩ := flat_sc l k hk
  obtain ⟨_, hl, h2⟩ := h
  rcases h2 with ⟨_, e⟩ | ⟨g, cap, cur, ev, hb, hh, hn, hc, hs, ht⟩
  · omega
  · refine ⟨g, cap, ev, hn, hc, ?_, ?_⟩
    · rw [cell_of_row W g _ cur 34 (0, 0) hh, ← Array.getElem?_toList, ← f0, ← ht, List.getElem?_take, if_pos (by omega)]
    · rw [cell_of_row W g _ cur 34 (0, 0) hh, ← Array.getElem?_toList, ← f1, ← ht, List.getElem?_take, if_pos (by omega)]
/-- what the list holds behind the call -/
def Good2 (W : World) (n : Nat) (l : List (Value × Int)) : Prop := ∀ i, i < n → (l.getD i (.nilIface, 0)).2 = -1 - (i : Int) ∧ BareE W (l.getD i (.nilIface, 0)).1
theorem Good2.kept {W W2 : World} {n : Nat} {l : List (Value × Int)} (h : Good2 W n l) (k : Kept W W2) : Good2 W2 n l := fun i hi => ⟨(h i hi).1, (h i hi).2.kept k⟩
theorem Good.turn {W W2 : World} {lb : Nat} {base : Nat} {t : Value} {ccs : List Value} {l l2 : List (Value × Int)} {z : Int} (h : Good W l) (hw : Wk W base 34 2 sc t l) (hb : Blk W lb 207 ccs) (ht : kit.Turn W W2 (fun k => k = lb ∨ t.ownBlock = some k)) (hl : l2 = l ∨ ∃ v, l2 = l ++ [(v, z)]) : Good2 W2 l.length l2 := by
  intro i hi
  have e : l2.getD i (.nilIface, 0) = l.getD i (.nilIface, 0) := by
    rcases hl with rfl | ⟨v, rfl⟩
    · rfl
    · simp [List.getD_eq_getElem?_getD, hi, List.getElem?_append_left]
  rw [e]
  obtain ⟨h1, p, js, e2, h2, h3⟩ := h i hi
  refine ⟨h1, p, js, e2, ht.blk h2 ?_, h3⟩
  rintro (rfl | e3)
  · exact h2.apart hb (by decide) rfl
  · exact h2.notOwned hw.2 (by decide) e3
end Go.Proofs.YtilhckihpgfkfaaDoor.sr
