/-
  A printer whose buffer began as a text's bytes (its capacity is marked, so it is no plain row of the call's own), over this seat's program: print.
  Conditions: the output stays below 2^46 bytes.
-/
import Derived.Test.YtdpljbhbnlcoaaaPr
import Derived.Lib.ConvBytes
import Derived.Deep.AppendSrc
import Derived.Laws.IdiomCopy
import Derived.Outline
namespace Go.Proofs.Ytdpljbhbnlcoaaa.dx
open Go.ChangeShapes Go.WideShapes Go.ChangeAt Go.RowKit
open kit pr

/-- block q holds the bytes xs and has room for c, none of it frozen -/
structure OwnX (w : World) (q c : Nat) (xs : List Int) : Prop where
  lt : q < w.heap.size
  le : xs.length ≤ c
  room : ∀ j, j < c → (w.cell? ⟨q, j, none⟩).isSome = true ∧ w.frozen? ⟨q, j, none⟩ = false
  bytes : ∀ j, j < xs.length → w.cell? ⟨q, j, none⟩ = some (.int .u8 (xs.getD j 0))
theorem OwnX.same {w w2 : World} {q c : Nat} {xs : List Int} (h : OwnX w q c xs) (hb : w2.heap[q]? = w.heap[q]?) : OwnX w2 q c xs := by
  have hc : ∀ j, w2.cell? ⟨q, j, none⟩ = w.cell? ⟨q, j, none⟩ := fun j => World.cell?_of_block (a := ⟨q, j, none⟩) hb
  have hf : ∀ j, w2.frozen? ⟨q, j, none⟩ = w.frozen? ⟨q, j, none⟩ := fun j => by simp only [World.frozen?]; rw [hb]
  refine ⟨?_, h.le, fun j hj => by rw [hc, hf]; exact h.room j hj, fun j hj => by rw [hc]; exact h.bytes j hj⟩
  have := h.lt
  apply Classical.byContradiction
  intro hn
  rw [Array.getElem?_eq_none (by omega), Array.getElem?_eq_getElem this] at hb
  cases hb
theorem setCells_block (b : Nat) : ∀ (vs : List Value) (o : Nat) (w : World) (k : Nat), k ≠ b → (w.setCells b o vs).heap[k]? = w.heap[k]?
  | [], _, _, _, _ => rfl
  | v :: r, o, w, k, h => by
    show ((w.setCell ⟨b, o, none⟩ v).setCells b (o + 1) r).heap[k]? = _
    rw [setCells_block b r (o + 1) _ k h]
    exact Below.heap_setCell w ⟨b, o, none⟩ v k h
theorem setCells_rest (b : Nat) : ∀ (vs : List Value) (o : Nat) (w : World), (w.setCells b o vs).os = w.os ∧ (w.setCells b o vs).tape = w.tape ∧ (w.setCells b o vs).output = w.output ∧ (w.setCells b o vs).heap.size = w.heap.size
  | [], _, _ => ⟨rfl, rfl, rfl, rfl⟩
  | v :: r, o, w => by
    have h := setCells_rest b r (o + 1) (w.setCell ⟨b, o, none⟩ v)
    exact ⟨h.1.trans rfl, h.2.1.trans rfl, h.2.2.1.trans rfl, h.2.2.2.trans (by simp [World.setCell])⟩
/-- w2 is w but for block q and new blocks -/
structure Turned (w w2 : World) (q : Nat) : Prop where
  os : w2.os = w.os
  tape : w2.tape = w.tape
  output : w2.output = w.output
  size : w.heap.size ≤ w2.heap.size
  block : ∀ k, k < w.heap.size → k ≠ q → w2.heap[k]? = w.heap[k]?
set_option maxRecDepth 100000 in
theorem run_append_x (w : World) (ty : TypeId) (q c : Nat) (xs : List Int) (h : OwnX w q c xs) (s : ByteArray) (hb : xs.length + s.size ≤ 70368744177664) :
    ∃ q2 c2 w2, (Builtin.append_ #[22, 9] ty #[.slice (some ⟨q, 0, none⟩) xs.length c, .string s]).run Try.prog w = .ok (.slice (some ⟨q2, 0, none⟩) (xs.length + s.size) c2) w2 ∧ (q2 = q ∨ q2 = w.heap.size) ∧ OwnX w2 q2 c2 (xs ++ bytesOf s) ∧ Turned w w2 q := by
  obtain ⟨i0, hi, hz0, hz1, hz2⟩ := info_parts info5
  have hbl : (bytesOf s).length = s.size := bytesOf_length s
  have hbc : byteCells s = (bytesOf s).map (Value.int .u8) := by
    unfold byteCells bytesOf
    rw [List.map_map]; rfl
  have hsrc : Src Try.prog i0.size 9 (.string s) s.size (byteCells s) w := by rw [hz1]; exact Src.ofString w Try.underlying9 s
  have hbcl : (byteCells s).length = s.size := byteCells_length s
  by_cases hroom : xs.length + s.size ≤ c
  · have hr := run_append_room_src (P := Try.prog) (w := w) 22 9 ty 5 i0 Try.underlying22 hi q 0 xs.length c (.string s) s.size (byteCells s) hsrc hroom (fun j hj => (h.room _ (by rw [hz1]; omega)).1) (fun j hj => (h.room _ (by rw [hz1]; omega)).2)
    rw [hz1] at hr
    obtain ⟨r1, r2, r3, r4⟩ := setCells_rest q (byteCells s) (0 + xs.length * 1) w
    refine ⟨q, c, _, hr, .inl rfl, ⟨by rw [r4]; exact h.lt, by rw [List.length_append, hbl]; exact hroom, fun j hj => ⟨?_, ?_⟩, fun j hj => ?_⟩, ⟨r1, r2, r3, by rw [r4]; exact Nat.le_refl _, fun k _ hk => setCells_block q _ _ _ k hk⟩⟩
    · by_cases hin : 0 + xs.length * 1 ≤ j ∧ j < 0 + xs.length * 1 + (byteCells s).length
      · have e := World.cell?_setCells_in q (byteCells s) (0 + xs.length * 1) w (fun i hi => (h.room _ (by omega)).1) (j - xs.length) (by omega)
        have e2 : 0 + xs.length * 1 + (j - xs.length) = j := by omega
        rw [e2] at e
        rw [e]; rfl
      · rw [World.cell?_setCells_out q _ _ _ _ (fun _ _ => by show j < _ ∨ _ ≤ j; omega)]
        exact (h.room j hj).1
    · rw [World.frozen?_setCells]; exact (h.room j hj).2
    · rw [List.length_append, hbl] at hj
      by_cases hin : j < xs.length
      · rw [World.cell?_setCells_out q _ _ _ _ (fun _ _ => by show j < _ ∨ _ ≤ j; omega), h.bytes j hin]
        simp [List.getElem?_append_left hin, hin]
      · have e := World.cell?_setCells_in q (byteCells s) (0 + xs.length * 1) w (fun i hi => (h.room _ (by omega)).1) (j - xs.length) (by omega)
        have e2 : 0 + xs.length * 1 + (j - xs.length) = j := by omega
        rw [e2] at e
        rw [e]
        have hj2 : j - xs.length < (bytesOf s).length := by omega
        simp [hbc, List.getElem?_append_right (show xs.length ≤ j by omega), hj2]
  · have hold : (Builtin.firstCells i0.size xs.length (.slice (some ⟨q, 0, none⟩) xs.length c)).run Try.prog w.drew = .ok (xs.map (Value.int .u8)).toArray w.drew := run_firstCells_some w.drew i0.size xs.length ⟨q, 0, none⟩ xs.length c (xs.map (Value.int .u8)) (by rw [hz1]; simp) (fun j u hu => by
      have hj : j < xs.length := by simpa using (List.getElem?_eq_some_iff.1 hu).1
      have e := h.bytes j hj
      rw [Addr.add_lit, Nat.zero_add, World.cell?_drew, e, ← hu]
      simp [hj])
    have hr := run_append_grow_src (P := Try.prog) (w := w) 22 9 ty 5 i0 (.int .u8 0) Try.underlying22 hi hz0 (some ⟨q, 0, none⟩) xs.length c (xs.map (Value.int .u8)) hold (.string s) s.size (byteCells s) hsrc (by omega) (by omega) (by rw [hz2]; exact growslice_fits (by omega) (by omega))
    have hcap : xs.length + s.size ≤ grownCap w (xs.length + s.size) c 5 := grownCap_ge ..
    have hcs : (xs.map (Value.int .u8) ++ byteCells s) = (xs ++ bytesOf s).map (Value.int .u8) := by rw [hbc, List.map_append]
    rw [hcs] at hr
    generalize grownCap w (xs.length + s.size) c 5 = C at *
    obtain ⟨cs, hcs2⟩ : ∃ cs : List Value, cs.toArray = (((xs ++ bytesOf s).map (Value.int .u8)).toArray ++ Builtin.zeroCells (Value.int .u8 0).cells (C - (xs.length + s.size))) := ⟨_, Array.toArray_toList⟩
    rw [← hcs2] at hr
    have hcl : cs.length = C := by
      have := congrArg Array.size hcs2
      simp [hbl, Builtin.zeroCells, Value.cells] at this
      omega
    have B := (Blk.new w.drew 5 cs)
    have B2 : Blk (w.drew.alloc (.cells cs.toArray 5)) w.heap.size 5 cs := B
    refine ⟨w.heap.size, C, _, hr, .inr rfl, ⟨B2.lt, by rw [List.length_append, hbl]; exact hcap, fun j hj => ⟨by rw [B2.cellD (by omega)]; rfl, B2.free j⟩, fun j hj => ?_⟩, ?_⟩
    · rw [B2.cell]
      have hj2 : j < ((xs ++ bytesOf s).map (Value.int .u8)).toArray.size := by simpa using hj
      have e : cs[j]? = cs.toArray[j]? := by simp
      rw [e, hcs2, Array.getElem?_append_left hj2]
      simp only [List.getElem?_toArray, List.getElem?_map, List.getD_eq_getElem?_getD]
      rw [List.getElem?_eq_getElem hj]; rfl
    · have K := ((Kept.refl w).drew).alloc (.cells cs.toArray 5)
      exact ⟨K.os, K.tape, K.output, K.size, fun k hk _ => K.block k hk⟩
end Go.Proofs.Ytdpljbhbnlcoaaa.dx
