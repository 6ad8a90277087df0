/-
  Words of my own for memory over this seat's program: a block known whole (Blk), what may change beside it (Only), a slice that reads as a list (Row).
  Conditions: none.
-/
import Derived.Test.YtgjhmbbbkkidlaaGreatDoorKit
import Derived.Laws.OwnMore
import Derived.Laws.Rows
import Derived.Deep.AppendLies
import Derived.Deep.Draws
import Derived.Laws.MakeOwn
namespace Go.Proofs.YtgjhmbbbkkidlaaGreatDoor.kit
open Go.ChangeShapes Go.WideShapes Go.ChangeAt Go.RowKit

/-- block g holds exactly the cells cs, of element type t, none frozen -/
def Blk (w : World) (g : Nat) (t : TypeId) (cs : List Value) : Prop := w.heap[g]? = some (.cells cs.toArray t (0, 0))

section
variable {w w2 : World} {g : Nat} {t : TypeId} {cs : List Value}
theorem Blk.lt (h : Blk w g t cs) : g < w.heap.size := by
  apply Classical.byContradiction
  intro hn
  rw [Blk, Array.getElem?_eq_none (by omega)] at h
  cases h
theorem Blk.cell (h : Blk w g t cs) (i : Nat) : w.cell? ⟨g, i, none⟩ = cs[i]? := by
  have := cell_of_row w g i cs.toArray t (0, 0) h
  simpa using this
theorem Blk.cellD (h : Blk w g t cs) {i : Nat} (hi : i < cs.length) : w.cell? ⟨g, i, none⟩ = some cs[i] := by
  rw [h.cell i, List.getElem?_eq_getElem hi]
theorem Blk.free (h : Blk w g t cs) (i : Nat) : w.frozen? ⟨g, i, none⟩ = false := by
  rw [Blk] at h; simp [World.frozen?, h]
theorem Blk.new (w : World) (t : TypeId) (cs : List Value) : Blk (w.alloc (.cells cs.toArray t)) w.heap.size t cs := heap_alloc_new w _
theorem Blk.drew (h : Blk w g t cs) : Blk w.drew g t cs := h
theorem Blk.drewN (h : Blk w g t cs) (n : Nat) : Blk (w.drewN n) g t cs := h
theorem Blk.alloc (h : Blk w g t cs) (o : Obj) : Blk (w.alloc o) g t cs := (Below.heap_alloc w o g h.lt).trans h
theorem Blk.set (h : Blk w g t cs) (i : Nat) (u : Value) : Blk (w.setCell ⟨g, i, none⟩ u) g t (cs.set i u) := by
  rw [Blk] at h ⊢
  simp [World.setCell, Array.getElem?_modify, h]
theorem Blk.far (h : Blk w g t cs) {p : Addr} (hp : g ≠ p.block) (u : Value) : Blk (w.setCell p u) g t cs := (Below.heap_setCell w p u g hp).trans h
theorem Blk.kept (h : Blk w g t cs) (hk : Kept w w2) : Blk w2 g t cs := (hk.block g h.lt).trans h
theorem Blk.below {B : Nat} (h : Blk w g t cs) (hb : Below B w w2) (hg : g < B) : Blk w2 g t cs := (hb.block g hg).trans h
theorem Blk.grown {row : Option Nat} (h : Blk w g t cs) (hb : w.grownBy w2 row) (hg : some g ≠ row) : Blk w2 g t cs := (hb.block g h.lt hg).trans h
theorem Blk.apart {g2 : Nat} {t2 : TypeId} {cs2 : List Value} (h : Blk w g t cs) (h2 : Blk w g2 t2 cs2) (hne : t ≠ t2) : g ≠ g2 := by
  intro e
  subst e
  rw [Blk] at h h2
  rw [h] at h2
  have := Option.some.inj h2
  injection this with _ e2
  exact hne e2
/-- a row that the call owns, whose element type is another's, lies in another block -/
theorem Blk.notOwned {base : Nat} {e : TypeId} {size n : Nat} {v : Value} {xs : List Value} (h : Blk w g t cs) (ho : w.ownsRow base e size v n xs) (hne : e ≠ t) : v.ownBlock ≠ some g := by
  rcases ho.2 with ⟨e1, _⟩ | ⟨g2, cap, cur, e1, _, hh, _⟩
  · rw [e1]; simp [Value.ownBlock]
  · intro he
    rw [e1] at he
    have hg : g2 = g := by simpa [Value.ownBlock] using he
    rw [hg] at hh
    rw [Blk] at h
    rw [h] at hh
    have := Option.some.inj hh
    injection this with _ e2
    exact hne e2.symm
end

theorem own_mono {w : World} {base base2 : Nat} {e : TypeId} {size n : Nat} {v : Value} {xs : List Value} (h : w.ownsRow base e size v n xs) (hb : base2 ≤ base) : w.ownsRow base2 e size v n xs := by
  refine ⟨h.1, ?_⟩
  rcases h.2 with h2 | ⟨g, cap, cur, e1, e2, r⟩
  · exact Or.inl h2
  · exact Or.inr ⟨g, cap, cur, e1, Nat.le_trans hb e2, r⟩
theorem own_kept {w w2 : World} {base : Nat} {e : TypeId} {size n : Nat} {v : Value} {xs : List Value} (h : w.ownsRow base e size v n xs) (hk : Kept w w2) : w2.ownsRow base e size v n xs := by
  refine ⟨h.1, ?_⟩
  rcases h.2 with h2 | ⟨g, cap, cur, e1, e2, hh, r⟩
  · exact Or.inl h2
  · refine Or.inr ⟨g, cap, cur, e1, e2, ?_, r⟩
    have hlt : g < w.heap.size := by
      apply Classical.byContradiction
      intro hn
      rw [Array.getElem?_eq_none (by omega)] at hh
      cases hh
    exact (hk.block g hlt).trans hh

/-- an owned row whose block lies below B survives what leaves all below B alone -/
theorem own_below {w w2 : World} {B base : Nat} {e : TypeId} {size n : Nat} {v : Value} {xs : List Value} (h : w.ownsRow base e size v n xs) (hb : Below B w w2) (hB : ∀ k, v.ownBlock = some k → k < B) : w2.ownsRow base e size v n xs := by
  refine ⟨h.1, ?_⟩
  rcases h.2 with h2 | ⟨g, cap, cur, e1, e2, hh, r⟩
  · exact Or.inl h2
  · refine Or.inr ⟨g, cap, cur, e1, e2, ?_, r⟩
    exact (hb.block g (hB g (by rw [e1]; rfl))).trans hh
theorem own_lt {w : World} {base : Nat} {e : TypeId} {size n c : Nat} {a : Option Addr} {xs : List Value} (h : w.ownsRow base e size (.slice a n c) n xs) : ∀ k, a.map (·.block) = some k → base ≤ k ∧ k < w.heap.size := by
  intro k hk
  rcases a with _ | ad
  · cases hk
  · injection hk with hk
    exact h.lt k (by simpa [Value.ownBlock] using hk)
theorem own_of_map {n c : Nat} {a : Option Addr} {k : Nat} (h : Value.ownBlock (.slice a n c) = some k) : a.map (·.block) = some k := by
  rcases a with _ | ad
  · cases h
  · simpa [Value.ownBlock] using h

/-- a store into another block leaves an owned row owned -/
theorem own_far {w : World} {base : Nat} {e : TypeId} {size n : Nat} {v : Value} {xs : List Value} (h : w.ownsRow base e size v n xs) {p : Addr} (hp : v.ownBlock ≠ some p.block) {u : Value} : (w.setCell p u).ownsRow base e size v n xs := by
  refine ⟨h.1, ?_⟩
  rcases h.2 with h2 | ⟨g, cap, cur, e1, e2, hh, r⟩
  · exact Or.inl h2
  · refine Or.inr ⟨g, cap, cur, e1, e2, ?_, r⟩
    rw [Below.heap_setCell _ _ _ _ (fun e => hp (by rw [e1]; simp [Value.ownBlock, e]))]
    exact hh

/-- a slice value (nil, empty or not) whose elements, of one cell each, are xs -/
def Row (w : World) (a : Option Addr) (n cap : Nat) (xs : List Value) : Prop :=
  xs.length = n ∧ n ≤ cap ∧ cap ≤ maxLen ∧ (a = none → cap = 0) ∧
  (0 < n → ∃ b off, a = some ⟨b, off, none⟩ ∧ b < w.heap.size ∧ ∀ i (h : i < xs.length), w.cell? ⟨b, off + i, none⟩ = some xs[i])

section
variable {w w2 : World} {a : Option Addr} {n cap : Nat} {xs : List Value}
theorem Row.len (h : Row w a n cap xs) : xs.length = n := h.1
theorem Row.kept (h : Row w a n cap xs) (hk : Kept w w2) : Row w2 a n cap xs :=
  ⟨h.1, h.2.1, h.2.2.1, h.2.2.2.1, fun hn => by
    obtain ⟨b, off, ha, hb, hc⟩ := h.2.2.2.2 hn
    exact ⟨b, off, ha, Nat.lt_of_lt_of_le hb hk.size, fun i hi => hk.cell (hc i hi)⟩⟩
/-- the row's block survives what leaves all blocks but one unturned -/
theorem Row.far (h : Row w a n cap xs) (hs : w.heap.size ≤ w2.heap.size) (hk : ∀ b, b < w.heap.size → a.map (·.block) = some b → w2.heap[b]? = w.heap[b]?) : Row w2 a n cap xs :=
  ⟨h.1, h.2.1, h.2.2.1, h.2.2.2.1, fun hn => by
    obtain ⟨b, off, ha, hb, hc⟩ := h.2.2.2.2 hn
    refine ⟨b, off, ha, Nat.lt_of_lt_of_le hb hs, fun i hi => ?_⟩
    exact (World.cell?_of_block (a := ⟨b, off + i, none⟩) (hk b hb (by rw [ha]; rfl))).trans (hc i hi)⟩
theorem Row.of_own {base : Nat} {e : TypeId} {c : Nat} (h : w.ownsRow base e 1 (.slice a n c) n xs) : Row w a n c xs := by
  obtain ⟨hl, h2⟩ := h
  rcases h2 with ⟨hv, hn⟩ | ⟨g, cap, cur, hv, hb, hh, hnc, hcm, hcs, ht⟩
  · injection hv with e1 e2 e3
    subst e1 e3 hn
    exact ⟨by simpa using hl, by omega, by omega, fun _ => rfl, fun h => absurd h (by omega)⟩
  · injection hv with e1 e2 e3
    subst e1 e3
    refine ⟨by simpa using hl, hnc, hcm, fun h => (by cases h), fun _ => ⟨g, 0, rfl, ?_, fun i hi => ?_⟩⟩
    · apply Classical.byContradiction
      intro hn
      rw [Array.getElem?_eq_none (by omega)] at hh
      cases hh
    · rw [cell_of_row w g (0 + i) cur e (0, 0) hh]
      have hi2 : i < n := by simpa [hl] using hi
      have := congrArg (fun l => l[i]?) ht
      simp only [Nat.mul_one, List.getElem?_take, hi2, if_true] at this
      rw [List.getElem?_eq_getElem hi] at this
      simpa using this
end
theorem Row.nil (w : World) : Row w none 0 0 [] := ⟨rfl, Nat.le_refl _, Nat.zero_le _, fun _ => rfl, fun h => absurd h (by omega)⟩
/-- a slice of integers that came in, as the kit's frame tells it -/
theorem Row.of_cells {k : IntKind} {w : World} {x : Addr} {len cap : Nat} {zs : List Int} (hl : len ≤ cap) (hm : cap ≤ maxLen) (hz : zs.length = cap)
    (hc : ∀ i, i < zs.length → w.cell? (x.add i) = some (.int k (zs.getD i 0))) : Row w (some x) len cap ((zs.take len).map (Value.int k)) := by
  refine ⟨by simp; omega, hl, hm, fun h => (by cases h), fun hn => ?_⟩
  obtain ⟨b, off, spot⟩ := x
  have h0 := hc 0 (by omega)
  have hspot : spot = none := by simpa [Addr.add] using World.cell?_spot h0
  subst hspot
  refine ⟨b, off, rfl, by simpa [Addr.add] using World.block_lt_of_cell? w _ h0, fun i hi => ?_⟩
  have hi2 : i < len := by simp at hi; omega
  have hi3 : i < zs.length := by omega
  have h1 := hc i hi3
  have e : (⟨b, off, none⟩ : Addr).add i = ⟨b, off + i, none⟩ := by
    unfold Addr.add
    by_cases h : i = 0 <;> simp [h]
  rw [e] at h1
  rw [h1]
  simp [hi3]
theorem make0 {T E : TypeId} {z : Value} {size bytes : Nat} (ht : Tryz.prog.underlying T = some (.slice E)) (hinfo : (Tryz.prog.info? E).map (fun i => (i.zero, i.size, i.bytes)) = some (some z, size, bytes))
    (c : Nat) (C : Int) (hC : C = (c : Int)) (hb : bytes * c ≤ 281474976710656) (h63 : c ≤ maxLen) :
    ∃ cur : Array Value, cur.size = c * size ∧ ∀ w : World, (Instr.makeSlice T (.int .i64 0) (.int .i64 C)).run Tryz.prog w = .ok (.slice (some ⟨w.heap.size, 0, none⟩) 0 c) (w.alloc (.cells cur E)) := by
  obtain ⟨i, hi, hzz⟩ := Option.map_eq_some_iff.1 hinfo
  simp only [Prod.mk.injEq] at hzz
  obtain ⟨hz, hs, hby⟩ := hzz
  subst hC
  refine ⟨madeCells z.cells (c * size), size_madeCells _ _, fun w => ?_⟩
  have h1 : (c : Int) ≤ 9223372036854775807 := by
    have := h63
    unfold maxLen at this
    omega
  have h2 : (i.bytes : Int) * (c : Int) ≤ 281474976710656 := by
    have h : ((i.bytes * c : Nat) : Int) ≤ 281474976710656 := by rw [hby]; omega
    rwa [Int.natCast_mul] at h
  have hr := run_make (P := Tryz.prog) w T E i z ht hi hz .i64 .i64 0 c (Int.le_refl _) (by omega) h2 h1
  simp only [Int.toNat_zero, Int.toNat_natCast, hs] at hr
  exact hr
end Go.Proofs.YtgjhmbbbkkidlaaGreatDoor.kit
