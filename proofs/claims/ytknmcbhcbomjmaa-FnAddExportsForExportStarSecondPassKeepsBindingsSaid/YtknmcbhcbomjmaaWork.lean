/-
  A worklist in a row of the call's own (popped from the end, appended to); a row of bools by a function.
  Conditions: none.
-/
import Derived.Test.YtknmcbhcbomjmaaTurn
import Derived.Test.YtknmcbhcbomjmaaMk
import Derived.Maps.AppendAt
namespace Go.Proofs.Ytknmcbhcbomjmaa.kit
open Go.ChangeShapes Go.WideShapes Go.ChangeAt Go.RowKit

theorem own_shape {w : World} {base : Nat} {e : TypeId} {size n : Nat} {v : Value} {xs : List Value} (h : w.ownsRow base e size v n xs) : ∃ a c, v = .slice a n c := by
  rcases h.2 with ⟨e1, e2⟩ | ⟨g, cap, cur, e1, _⟩
  · exact ⟨none, 0, by rw [e1, e2]⟩
  · exact ⟨_, _, e1⟩
theorem keptGrown {w a b : World} {row : Option Nat} (h : Kept w a) (g : a.grownBy b row) (hq : ∀ k, row = some k → w.heap.size ≤ k) : Kept w b :=
  ⟨g.os.trans h.os, g.tape.trans h.tape, g.output.trans h.output, Nat.le_trans h.size g.size, fun k hk => (g.block k (Nat.lt_of_lt_of_le hk h.size) (fun e => by have := hq k e.symm; omega)).trans (h.block k hk)⟩
theorem newsOf (w : World) (vs : List Value) (t : TypeId) : ∀ j u, vs[j]? = some u → (w.alloc (.cells vs.toArray t)).cell? ((⟨w.heap.size, 0, none⟩ : Addr).add j) = some u := by
  intro j u h
  have e : (⟨w.heap.size, 0, none⟩ : Addr).add j = ⟨w.heap.size, j, none⟩ := by rw [Addr.add_mid, Nat.zero_add]
  rw [e, (Blk.new w t vs).cell]
  exact h

theorem flat_len {α : Type} {f : α → List Value} {size : Nat} (hf : ∀ x, (f x).length = size) (l : List α) : (l.flatMap f).length = l.length * size := by
  induction l with
  | nil => simp
  | cons x r ih => rw [List.flatMap_cons, List.length_append, ih, hf, List.length_cons, Nat.succ_mul]; omega
/-- t is a slice of the call's own that holds the list wk, an element's cells being f's -/
def Wk {α : Type} (w : World) (base : Nat) (E : TypeId) (size : Nat) (f : α → List Value) (t : Value) (wk : List α) : Prop := (∃ a c, t = .slice a wk.length c) ∧ w.ownsRow base E size t wk.length (wk.flatMap f)
section
variable {α : Type} {w w2 : World} {base : Nat} {E : TypeId} {size : Nat} {f : α → List Value} {t : Value} {wk : List α}
theorem Wk.of_own {n : Nat} {xs : List Value} (h : w.ownsRow base E size t n xs) (hn : n = wk.length) (hx : xs = wk.flatMap f) : Wk w base E size f t wk := by
  subst hn hx
  exact ⟨own_shape h, h⟩
theorem Wk.kept (h : Wk w base E size f t wk) (k : Kept w w2) : Wk w2 base E size f t wk := ⟨h.1, own_kept h.2 k⟩
theorem Wk.far (h : Wk w base E size f t wk) {p : Addr} (hp : t.ownBlock ≠ some p.block) (u : Value) : Wk (w.setCell p u) base E size f t wk := ⟨h.1, own_far h.2 hp⟩
theorem Wk.farBlk (h : Wk w base E size f t wk) {g T : Nat} {cs : List Value} (hb : Blk w g T cs) (hT : E ≠ T) (o : Nat) (u : Value) : Wk (w.setCell ⟨g, o, none⟩ u) base E size f t wk := h.far (hb.notOwned h.2 hT) u
theorem Wk.low (h : Wk w base E size f t wk) : ∀ k, t.ownBlock = some k → base ≤ k := fun k hk => (h.2.lt k hk).1
theorem Wk.pop {u : α} (hf : ∀ x, (f x).length = size) (h : Wk w base E size f t (wk ++ [u])) :
    ∃ g c, t = .slice (some ⟨g, 0, none⟩) (wk.length + 1) c ∧ wk.length + 1 ≤ c ∧ c ≤ maxLen ∧ (∀ j, j < size → w.cell? ⟨g, wk.length * size + j, none⟩ = (f u)[j]?) ∧ Wk w base E size f (.slice (some ⟨g, 0, none⟩) wk.length c) wk := by
  obtain ⟨_, hl, h2⟩ := h
  have e1 : (wk ++ [u]).length = wk.length + 1 := by simp
  rw [e1] at h2
  have hlen : (wk.flatMap f).length = wk.length * size := flat_len hf wk
  rcases h2 with ⟨_, e⟩ | ⟨g, cap, cur, ev, hb, hh, hn, hc, hs, ht⟩
  · omega
  · have hle : (wk.length + 1) * size ≤ cap * size := Nat.mul_le_mul_right _ hn
    rw [Nat.succ_mul] at hle
    refine ⟨g, cap, ev, hn, hc, fun j hj => ?_, ⟨_, _, rfl⟩, hlen, Or.inr ⟨g, cap, cur, rfl, hb, hh, by omega, hc, hs, ?_⟩⟩
    · rw [cell_of_row w g _ cur E (0, 0) hh]
      have h3 := congrArg (fun l => l[wk.length * size + j]?) ht
      simp only [List.getElem?_take, Nat.succ_mul] at h3
      rw [if_pos (by omega), List.flatMap_append, List.getElem?_append_right (by omega), hlen] at h3
      rw [← Array.getElem?_toList, h3]
      simp
    · have h3 := congrArg (List.take (wk.length * size)) ht
      rw [List.take_take, List.flatMap_append, List.take_append_of_le_length (by omega), List.take_of_length_le (Nat.le_of_eq hlen), Nat.min_eq_left (by rw [Nat.succ_mul]; omega)] at h3
      exact h3
end

/-- block q is a row of n bools -/
def Bools (w : World) (q n : Nat) (R : Nat → Bool) : Prop := Blk w q 4 ((List.range n).map fun i => Value.bool (R i))
section
variable {w w2 : World} {q n : Nat} {R : Nat → Bool}
theorem Bools.cell (h : Bools w q n R) {i : Nat} (hi : i < n) : w.cell? ⟨q, i, none⟩ = some (.bool (R i)) := by
  rw [Blk.cell h, List.getElem?_map, List.getElem?_range hi]; rfl
theorem Bools.free (h : Bools w q n R) (i : Nat) : w.frozen? ⟨q, i, none⟩ = false := Blk.free h i
theorem Bools.kept (h : Bools w q n R) (k : Kept w w2) : Bools w2 q n R := Blk.kept h k
theorem Bools.set (h : Bools w q n R) {i : Nat} (_hi : i < n) (b : Bool) : Bools (w.setCell ⟨q, i, none⟩ (.bool b)) q n (fun x => if x = i then b else R x) := by
  have h2 := Blk.set h i (.bool b)
  unfold Bools
  have e : ((List.range n).map fun i => Value.bool (R i)).set i (.bool b) = (List.range n).map fun x => Value.bool (if x = i then b else R x) := by
    apply List.ext_getElem?
    intro k
    by_cases hk : k < n
    · rw [List.getElem?_map, List.getElem?_range hk]
      by_cases ek : k = i
      · subst ek
        rw [List.getElem?_set_self (by simpa using hk)]
        simp
      · rw [List.getElem?_set_ne (fun c => ek c.symm), List.getElem?_map, List.getElem?_range hk]
        simp [ek]
    · rw [List.getElem?_eq_none (by simp; omega), List.getElem?_eq_none (by simp; omega)]
  rw [e] at h2
  exact h2
theorem Bools.congr {R2 : Nat → Bool} (h : Bools w q n R) (e : ∀ x, x < n → R x = R2 x) : Bools w q n R2 := by
  unfold Bools at *
  rw [show ((List.range n).map fun i => Value.bool (R2 i)) = (List.range n).map fun i => Value.bool (R i) from List.map_congr_left (fun i hi => by rw [e i (List.mem_range.1 hi)])]
  exact h
theorem Bools.far (h : Bools w q n R) {p : Addr} (hp : q ≠ p.block) (u : Value) : Bools (w.setCell p u) q n R := Blk.far h hp u
theorem Bools.grown (h : Bools w q n R) {row : Option Nat} (g : w.grownBy w2 row) (hr : some q ≠ row) : Bools w2 q n R := Blk.grown h g hr
theorem Bools.apart (h : Bools w q n R) {g t : Nat} {cs : List Value} (hb : Blk w g t cs) (ht : t ≠ 4) : g ≠ q := hb.apart h ht
theorem Bools.lt (h : Bools w q n R) : q < w.heap.size := Blk.lt h
theorem Bools.made (w : World) {C : List Value} (hl : C.length = n) (hc : ∀ k, k < n → C[k]? = some (.bool false)) : Bools (w.alloc (.cells C.toArray 4)) w.heap.size n (fun _ => false) := by
  have e : C = (List.range n).map fun _ => Value.bool false := by
    apply List.ext_getElem?
    intro k
    by_cases hk : k < n
    · rw [hc k hk, List.getElem?_map, List.getElem?_range hk]; rfl
    · rw [List.getElem?_eq_none (by omega), List.getElem?_eq_none (by simp; omega)]
  unfold Bools
  rw [← e]
  exact Blk.new w 4 C
/-- the number of cells that say no -/
noncomputable def noes (w : World) (q n : Nat) : Nat := (List.range n).countP (fun i => match w.cell? ⟨q, i, none⟩ with | some (.bool false) => true | _ => false)
theorem Bools.noes (h : Bools w q n R) : noes w q n = (List.range n).countP (fun i => !R i) := by
  unfold kit.noes
  apply List.countP_congr
  intro i hi
  rw [h.cell (List.mem_range.1 hi)]
  cases R i <;> simp
end
end Go.Proofs.Ytknmcbhcbomjmaa.kit
