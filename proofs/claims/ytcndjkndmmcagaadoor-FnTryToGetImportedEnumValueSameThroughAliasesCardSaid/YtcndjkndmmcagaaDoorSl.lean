/-
  Slices that came in, cell by cell; bounds of machine integers.
  Conditions: none.
-/
import Derived.Test.YtcndjkndmmcagaaDoorBlk
namespace Go.Proofs.YtcndjkndmmcagaaDoor.mp
open Go.ChangeShapes Go.WideShapes Go.ChangeAt Go.RowKit
open kit

def Ints (k : IntKind) (w : World) (A : Option Addr) (n : Nat) (zs : List Int) : Prop :=
  zs.length = n ∧ (0 < n → ∃ b off, A = some ⟨b, off, none⟩ ∧ b < w.heap.size ∧ ∀ i, i < n → w.cell? ⟨b, off + i, none⟩ = some (.int k (zs.getD i (-1))))
def Bools (w : World) (A : Option Addr) (n : Nat) (bs : List Bool) : Prop :=
  bs.length = n ∧ (0 < n → ∃ b off, A = some ⟨b, off, none⟩ ∧ b < w.heap.size ∧ ∀ i, i < n → w.cell? ⟨b, off + i, none⟩ = some (.bool (bs.getD i false)))
def Strs (w : World) (A : Option Addr) (n : Nat) (ss : List ByteArray) : Prop :=
  ss.length = n ∧ (0 < n → ∃ b off, A = some ⟨b, off, none⟩ ∧ b < w.heap.size ∧ ∀ i, i < n → w.cell? ⟨b, off + i, none⟩ = some (.string (ss.getD i ByteArray.empty)))
theorem Ints.kept {k : IntKind} {w w2 : World} {A : Option Addr} {n : Nat} {zs : List Int} (h : Ints k w A n zs) (hk : Kept w w2) : Ints k w2 A n zs :=
  ⟨h.1, fun h0 => by
    obtain ⟨b, off, e, hlt, hc⟩ := h.2 h0
    exact ⟨b, off, e, Nat.lt_of_lt_of_le hlt hk.size, fun i hi => hk.cell (hc i hi)⟩⟩
theorem Bools.kept {w w2 : World} {A : Option Addr} {n : Nat} {bs : List Bool} (h : Bools w A n bs) (hk : Kept w w2) : Bools w2 A n bs :=
  ⟨h.1, fun h0 => by
    obtain ⟨b, off, e, hlt, hc⟩ := h.2 h0
    exact ⟨b, off, e, Nat.lt_of_lt_of_le hlt hk.size, fun i hi => hk.cell (hc i hi)⟩⟩
theorem Strs.kept {w w2 : World} {A : Option Addr} {n : Nat} {ss : List ByteArray} (h : Strs w A n ss) (hk : Kept w w2) : Strs w2 A n ss :=
  ⟨h.1, fun h0 => by
    obtain ⟨b, off, e, hlt, hc⟩ := h.2 h0
    exact ⟨b, off, e, Nat.lt_of_lt_of_le hlt hk.size, fun i hi => hk.cell (hc i hi)⟩⟩
theorem Ints.of_row {k : IntKind} {w : World} {a : Option Addr} {n c : Nat} {zs : List Int} (h : Row w a n c (zs.map (Value.int k))) : Ints k w a n zs := by
  have hl : zs.length = n := by simpa using h.1
  refine ⟨hl, fun h0 => ?_⟩
  obtain ⟨b, off, e, hb, hc⟩ := h.2.2.2.2 h0
  refine ⟨b, off, e, hb, fun i hi => ?_⟩
  have hi2 : i < zs.length := by omega
  have := hc i (by simpa using hi2)
  rw [this]; simp [hi2]
theorem Bools.of_row {w : World} {a : Option Addr} {n c : Nat} {zs : List Bool} (h : Row w a n c (zs.map Value.bool)) : Bools w a n zs := by
  have hl : zs.length = n := by simpa using h.1
  refine ⟨hl, fun h0 => ?_⟩
  obtain ⟨b, off, e, hb, hc⟩ := h.2.2.2.2 h0
  refine ⟨b, off, e, hb, fun i hi => ?_⟩
  have hi2 : i < zs.length := by omega
  have := hc i (by simpa using hi2)
  rw [this]; simp [hi2]
theorem Strs.of_row {w : World} {a : Option Addr} {n c : Nat} {ss : List ByteArray} (h : Row w a n c (ss.map Value.string)) : Strs w a n ss := by
  have hl : ss.length = n := by simpa using h.1
  refine ⟨hl, fun h0 => ?_⟩
  obtain ⟨b, off, e, hb, hc⟩ := h.2.2.2.2 h0
  refine ⟨b, off, e, hb, fun i hi => ?_⟩
  have hi2 : i < ss.length := by omega
  have := hc i (by simpa using hi2)
  rw [this]; simp [hi2]
/-- floats, by their bits -/
def Flos (w : World) (A : Option Addr) (n : Nat) (xs : List Nat) : Prop :=
  xs.length = n ∧ (0 < n → ∃ b off, A = some ⟨b, off, none⟩ ∧ b < w.heap.size ∧ ∀ i, i < n → w.cell? ⟨b, off + i, none⟩ = some (.float .f64 (xs.getD i 0)))
theorem Flos.kept {w w2 : World} {A : Option Addr} {n : Nat} {xs : List Nat} (h : Flos w A n xs) (hk : Kept w w2) : Flos w2 A n xs :=
  ⟨h.1, fun h0 => by
    obtain ⟨b, off, e, hlt, hc⟩ := h.2 h0
    exact ⟨b, off, e, Nat.lt_of_lt_of_le hlt hk.size, fun i hi => hk.cell (hc i hi)⟩⟩
theorem Flos.of_row {w : World} {a : Option Addr} {n c : Nat} {xs : List Nat} (h : Row w a n c (xs.map (Value.float .f64))) : Flos w a n xs := by
  have hl : xs.length = n := by simpa using h.1
  refine ⟨hl, fun h0 => ?_⟩
  obtain ⟨b, off, e, hb, hc⟩ := h.2.2.2.2 h0
  refine ⟨b, off, e, hb, fun i hi => ?_⟩
  have hi2 : i < xs.length := by omega
  have := hc i (by simpa using hi2)
  rw [this]; simp [hi2]
/-- a readable slice of code units -/
def Units (w : World) (v : Value) : Prop := ∃ a n c zs, v = .slice a n c ∧ Row w a n c ((zs : List Int).map (Value.int .u16))
theorem Units.kept {w w2 : World} {v : Value} (h : Units w v) (k : Kept w w2) : Units w2 v := by
  obtain ⟨a, n, c, zs, e, hr⟩ := h
  exact ⟨a, n, c, zs, e, hr.kept k⟩
theorem Units.nil (w : World) : Units w (.slice none 0 0) := ⟨none, 0, 0, [], rfl, Row.nil w⟩
/-- a slice of such slices -/
def Rows16 (w : World) (A : Option Addr) (n : Nat) (vs : List Value) : Prop :=
  vs.length = n ∧ (∀ i, i < n → Units w (vs.getD i (.slice none 0 0))) ∧ (0 < n → ∃ b off, A = some ⟨b, off, none⟩ ∧ b < w.heap.size ∧ ∀ i, i < n → w.cell? ⟨b, off + i, none⟩ = some (vs.getD i (.slice none 0 0)))
theorem Rows16.kept {w w2 : World} {A : Option Addr} {n : Nat} {vs : List Value} (h : Rows16 w A n vs) (hk : Kept w w2) : Rows16 w2 A n vs :=
  ⟨h.1, fun i hi => (h.2.1 i hi).kept hk, fun h0 => by
    obtain ⟨b, off, e, hlt, hc⟩ := h.2.2 h0
    exact ⟨b, off, e, Nat.lt_of_lt_of_le hlt hk.size, fun i hi => hk.cell (hc i hi)⟩⟩
theorem addOff {b off : Nat} (i : Nat) : (⟨b, off, none⟩ : Addr).add i = ⟨b, off + i, none⟩ := by
  unfold Addr.add
  by_cases h : i = 0 <;> simp [h]
theorem strRow {w : World} {x : Addr} {len cap : Nat} {zs : List ByteArray} (hl : len ≤ cap) (hm : cap ≤ maxLen) (hz : zs.length = cap)
    (hc : ∀ i, i < zs.length → w.cell? (x.add i) = some (.string (zs.getD i ByteArray.empty))) : Row w (some x) len cap ((zs.take len).map Value.string) := by
  refine ⟨by simp; omega, hl, hm, fun h => (by cases h), fun hn => ?_⟩
  obtain ⟨b, off, spot⟩ := x
  have h0 := hc 0 (by omega)
  have hspot : spot = none := by simpa [Addr.add] using World.cell?_spot h0
  subst hspot
  refine ⟨b, off, rfl, by simpa [Addr.add] using World.block_lt_of_cell? w _ h0, fun i hi => ?_⟩
  have hi2 : i < len := by simp at hi; omega
  have hi3 : i < zs.length := by omega
  have h1 := hc i hi3
  rw [addOff] at h1
  rw [h1]
  simp [hi3]
theorem boolRow {w : World} {x : Addr} {len cap : Nat} {zs : List Bool} (hl : len ≤ cap) (hm : cap ≤ maxLen) (hz : zs.length = cap)
    (hc : ∀ i, i < zs.length → w.cell? (x.add i) = some (.bool (zs.getD i false))) : Row w (some x) len cap ((zs.take len).map Value.bool) := by
  refine ⟨by simp; omega, hl, hm, fun h => (by cases h), fun hn => ?_⟩
  obtain ⟨b, off, spot⟩ := x
  have h0 := hc 0 (by omega)
  have hspot : spot = none := by simpa [Addr.add] using World.cell?_spot h0
  subst hspot
  refine ⟨b, off, rfl, by simpa [Addr.add] using World.block_lt_of_cell? w _ h0, fun i hi => ?_⟩
  have hi2 : i < len := by simp at hi; omega
  have hi3 : i < zs.length := by omega
  have h1 := hc i hi3
  rw [addOff] at h1
  rw [h1]
  simp [hi3]
theorem wfi {n : Int} (h : (Lit.int .i32 n).wf = true) : -2147483648 ≤ n ∧ n ≤ 2147483647 := by
  simp only [Lit.wf, Bool.and_eq_true, decide_eq_true_eq] at h
  exact h
theorem wfw {n : Int} (h : (Lit.int .u32 n).wf = true) : 0 ≤ n ∧ n ≤ 4294967295 := by
  simp only [Lit.wf, Bool.and_eq_true, decide_eq_true_eq] at h
  exact h
theorem getD_mem {P : Int → Prop} {l : List Int} (h : ∀ x ∈ l, P x) {d : Int} (hd : P d) : ∀ j, P (l.getD j d) := fun j => by
  by_cases hj : j < l.length
  · rw [List.getD_eq_getElem?_getD, List.getElem?_eq_getElem hj]; exact h _ (List.getElem_mem hj)
  · rw [List.getD_eq_getElem?_getD, List.getElem?_eq_none (by omega)]; exact hd
end Go.Proofs.YtcndjkndmmcagaaDoor.mp
