/-
  wrBuild over this seat's program: the conditions as the linker reads them.
  Conditions: the conditions are readable and within the law's bounds.
-/
import Derived.Test.YtimllpocefbcbaaWk
namespace Go.Proofs.Ytimllpocefbcbaa.wr
open Go.ChangeShapes Go.WideShapes Go.ChangeAt Go.RowKit
open kit

/-- from lo on the blocks stand -/
def Same (lo : Nat) (W W2 : World) : Prop := W.heap.size ≤ W2.heap.size ∧ ∀ b, lo ≤ b → b < W.heap.size → W2.heap[b]? = W.heap[b]?
theorem Same.of_kept {lo : Nat} {W W2 : World} (k : Kept W W2) : Same lo W W2 := ⟨k.size, fun b _ hb => k.block b hb⟩
theorem Same.set {lo : Nat} (W : World) {g : Nat} (hg : g < lo) (o : Nat) (u : Value) : Same lo W (W.setCell ⟨g, o, none⟩ u) := ⟨by simp [World.setCell], fun b hb _ => Below.heap_setCell W ⟨g, o, none⟩ u b (by show b ≠ g; omega)⟩
theorem Same.cell {lo : Nat} {W W2 : World} (h : Same lo W W2) {b o : Nat} (hb : lo ≤ b) {v : Value} (hc : W.cell? ⟨b, o, none⟩ = some v) : W2.cell? ⟨b, o, none⟩ = some v :=
  (World.cell?_of_block (a := ⟨b, o, none⟩) (h.2 b hb (World.block_lt_of_cell? W _ hc))).trans hc
def TkLx (lo : Nat) (w : World) (b o : Nat) (op : Bool) : Prop :=
  lo ≤ b ∧ ((op = false ∧ w.cell? ⟨b, o, none⟩ = some (.pointer none)) ∨ (op = true ∧ ∃ q a c, lo ≤ q ∧ w.cell? ⟨b, o, none⟩ = some (.pointer (some ⟨q, 0, none⟩)) ∧ w.cell? ⟨q, 0, none⟩ = some (.slice a 0 c) ∧ c ≤ 9223372036854775807)) ∧ TkR w b o
def TkSx (lo : Nat) (w : World) (b o : Nat) : Prop := lo ≤ b ∧ TkS w b o
section
variable {lo b o : Nat} {W W2 : World}
theorem rest_same (s : Same lo W W2) (hb : lo ≤ b) (h : TkR W b o) : TkR W2 b o := by
  obtain ⟨h1, h2, h3, h4, h5, h6⟩ := h
  exact ⟨s.cell hb h1, s.cell hb h2, s.cell hb h3, s.cell hb h4, s.cell hb h5, s.cell hb h6⟩
theorem TkLx.same {op : Bool} (h : TkLx lo W b o op) (s : Same lo W W2) : TkLx lo W2 b o op := by
  obtain ⟨hb, h, r⟩ := h
  refine ⟨hb, ?_, rest_same s hb r⟩
  rcases h with ⟨h1, h2⟩ | ⟨h1, q, a, c, hq, h2, h3, h4⟩
  · exact .inl ⟨h1, s.cell hb h2⟩
  · exact .inr ⟨h1, q, a, c, hq, s.cell hb h2, s.cell hq h3, h4⟩
theorem TkLx.out {op : Bool} (h : TkLx lo W b o op) : TkL W b o op := by
  obtain ⟨_, h, r⟩ := h
  refine ⟨?_, r⟩
  rcases h with ⟨h1, h2⟩ | ⟨h1, q, a, c, _, h2, h3, h4⟩
  · exact .inl ⟨h1, h2⟩
  · exact .inr ⟨h1, q, a, c, h2, h3, h4⟩
theorem TkSx.same (h : TkSx lo W b o) (s : Same lo W W2) : TkSx lo W2 b o := ⟨h.1, s.cell h.1 h.2.1, rest_same s h.1 h.2.2⟩
end
abbrev LaySl (lo : Nat) (W : World) (v : Value) (c : Cnd) : Prop := Sl W v c.L.length 7 (fun b o i => TkLx lo W b o (c.L.getD i false))
abbrev SupSl (lo : Nat) (W : World) (v : Value) (c : Cnd) : Prop := Sl W v c.s.toNat 7 (fun b o _ => TkSx lo W b o)
/-- the cells of a condition in the row -/
def ImR (lo : Nat) (W : World) (cs : List Value) (o : Nat) (c : Cnd) : Prop :=
  ∃ v1 v2, cs[o]? = some (.slice none 0 0) ∧ cs[o + 1]? = some v1 ∧ cs[o + 2]? = some v2 ∧ LaySl lo W v1 c ∧ SupSl lo W v2 c
structure Bq (w W : World) (F : Cs) (k : Nat) : Prop where
  kept : Kept w W
  row : ∃ cs, Blk W w.heap.size 57 cs ∧ cs.length = F.length * 3 ∧ (∀ i, i < k → ImR (w.heap.size + 1) W cs (i * 3) (at_ F i)) ∧ ∀ i, k ≤ i → i < F.length → cs[i * 3]? = some (.slice none 0 0)
section
variable {w W W2 : World} {F : Cs} {k : Nat}
theorem ImR.same {lo : Nat} {cs cs2 : List Value} {o : Nat} {c : Cnd} (h : ImR lo W cs o c) (s : Same lo W W2) (he : ∀ j, j < 3 → cs2[o + j]? = cs[o + j]?) : ImR lo W2 cs2 o c := by
  obtain ⟨v1, v2, h0, h1, h2, s1, s2⟩ := h
  exact ⟨v1, v2, (he 0 (by omega)).trans h0, (he 1 (by omega)).trans h1, (he 2 (by omega)).trans h2, Sl.mono s1 s.1 fun _ _ _ _ q => q.same s, Sl.mono s2 s.1 fun _ _ _ _ q => q.same s⟩
theorem Bq.lt (h : Bq w W F k) : w.heap.size < W.heap.size := by obtain ⟨cs, hb, _⟩ := h.row; exact hb.lt
theorem Bq.kept2 (h : Bq w W F k) (kk : Kept W W2) : Bq w W2 F k := by
  obtain ⟨cs, hb, hl, hc, hz⟩ := h.row
  exact ⟨h.kept.trans kk, cs, hb.kept kk, hl, fun i hi => (hc i hi).same (Same.of_kept kk) (fun _ _ => rfl), hz⟩
theorem Bq.has (h : Bq w W F k) {i o : Nat} (hi : i < F.length) (ho : o < 3) : ∃ v, W.cell? ⟨w.heap.size, i * 3 + o, none⟩ = some v ∧ W.frozen? ⟨w.heap.size, i * 3 + o, none⟩ = false := by
  obtain ⟨cs, hb, hl, _⟩ := h.row
  exact hb.has (by rw [hl]; have := Nat.mul_le_mul_right 3 (show i + 1 ≤ F.length by omega); omega)
theorem Bq.putL (h : Bq w W F k) (u : Value) : Bq w (W.setCell ⟨w.heap.size, k * 3 + 1, none⟩ u) F k := by
  obtain ⟨cs, hb, hl, hc, hz⟩ := h.row
  refine ⟨h.kept.setCell (Nat.le_refl _) _, _, hb.set (k * 3 + 1) u, by simpa using hl, fun i hi => ?_, fun i h1 h2 => ?_⟩
  · exact (hc i hi).same (Same.set W (Nat.lt_succ_self _) _ _) fun j hj => by rw [List.getElem?_set_ne (by omega)]
  · rw [List.getElem?_set_ne (by omega)]; exact hz i h1 h2
theorem Bq.cellL (h : Bq w W F k) (hk : k < F.length) (u : Value) : (W.setCell ⟨w.heap.size, k * 3 + 1, none⟩ u).cell? ⟨w.heap.size, k * 3 + 1, none⟩ = some u := by
  obtain ⟨cs, hb, hl, _⟩ := h.row
  rw [(hb.set _ u).cell, List.getElem?_set_self (by rw [hl]; have := Nat.mul_le_mul_right 3 (show k + 1 ≤ F.length by omega); omega)]
theorem Bq.close (h : Bq w W F k) (hk : k < F.length) {v1 v2 : Value} (h1 : W.cell? ⟨w.heap.size, k * 3 + 1, none⟩ = some v1) (s1 : LaySl (w.heap.size + 1) W v1 (at_ F k)) (s2 : SupSl (w.heap.size + 1) W v2 (at_ F k)) : Bq w (W.setCell ⟨w.heap.size, k * 3 + 2, none⟩ v2) F (k + 1) := by
  obtain ⟨cs, hb, hl, hc, hz⟩ := h.row
  have hlim : k * 3 + 3 ≤ F.length * 3 := by have := Nat.mul_le_mul_right 3 (show k + 1 ≤ F.length by omega); omega
  have s := Same.set (lo := w.heap.size + 1) W (Nat.lt_succ_self w.heap.size) (k * 3 + 2) v2
  refine ⟨h.kept.setCell (Nat.le_refl _) _, _, hb.set (k * 3 + 2) v2, by simpa using hl, fun i hi => ?_, fun i h1 h2 => ?_⟩
  · by_cases e : i = k
    · subst e
      rw [hb.cell] at h1
      exact ⟨v1, v2, by rw [List.getElem?_set_ne (by omega)]; exact hz i (Nat.le_refl _) hk, by rw [List.getElem?_set_ne (by omega)]; exact h1, by rw [List.getElem?_set_self (by omega)], Sl.mono s1 s.1 fun _ _ _ _ q => q.same s, Sl.mono s2 s.1 fun _ _ _ _ q => q.same s⟩
    · exact (hc i (by omega)).same s fun j hj => by rw [List.getElem?_set_ne (by omega)]
  · rw [List.getElem?_set_ne (by omega)]; exact hz i (by omega) h2
theorem Bq.fin (h : Bq w W F F.length) (hm : F.length ≤ 4096) : ImpsC W (.slice (some ⟨w.heap.size, 0, none⟩) F.length F.length) F := by
  obtain ⟨cs, hb, hl, hc, _⟩ := h.row
  refine ⟨_, _, rfl, Nat.le_refl _, by unfold maxLen; omega, (fun e => by cases e), fun _ => ⟨_, 0, rfl, hb.lt, fun i hi => ?_⟩⟩
  obtain ⟨v1, v2, h0, h1, h2, s1, s2⟩ := hc i hi
  rw [Nat.zero_add]
  exact ⟨v1, v2, by rw [hb.cell]; exact h0, by rw [hb.cell]; exact h1, by rw [hb.cell]; exact h2, Sl.mono s1 (Nat.le_refl _) fun _ _ _ _ q => q.out, Sl.mono s2 (Nat.le_refl _) fun _ _ _ _ q => q.2⟩
end
/-- the cells of a layer's token in its row -/
def TkC (lo : Nat) (W : World) (cs : List Value) (o : Nat) (op : Bool) : Prop :=
  ((op = false ∧ cs[o]? = some (.pointer none)) ∨ (op = true ∧ ∃ q a c, lo ≤ q ∧ cs[o]? = some (.pointer (some ⟨q, 0, none⟩)) ∧ W.cell? ⟨q, 0, none⟩ = some (.slice a 0 c) ∧ c ≤ 9223372036854775807)) ∧
    cs[o + 1]? = some (.string ⟨#[]⟩) ∧ cs[o + 2]? = some (.int .i32 0) ∧ cs[o + 3]? = some (.int .u32 0) ∧ cs[o + 4]? = some (.int .u16 0) ∧ cs[o + 5]? = some (.int .u8 0) ∧ cs[o + 6]? = some (.int .u8 0)
theorem TkC.same {lo : Nat} {W W2 : World} {cs cs2 : List Value} {o : Nat} {op : Bool} (h : TkC lo W cs o op) (s : Same lo W W2) (he : ∀ j, j < 7 → cs2[o + j]? = cs[o + j]?) : TkC lo W2 cs2 o op := by
  obtain ⟨h, h1, h2, h3, h4, h5, h6⟩ := h
  refine ⟨?_, (he 1 (by omega)).trans h1, (he 2 (by omega)).trans h2, (he 3 (by omega)).trans h3, (he 4 (by omega)).trans h4, (he 5 (by omega)).trans h5, (he 6 (by omega)).trans h6⟩
  rcases h with ⟨g1, g2⟩ | ⟨g1, q, a, c, hq, g2, g3, g4⟩
  · exact .inl ⟨g1, (he 0 (by omega)).trans g2⟩
  · exact .inr ⟨g1, q, a, c, hq, (he 0 (by omega)).trans g2, s.cell hq g3, g4⟩
structure Kq (w W : World) (L : List Bool) (j : Nat) : Prop where
  kept : Kept w W
  row : ∃ cs, Blk W w.heap.size 54 cs ∧ cs.length = L.length * 7 ∧ (∀ i, i < j → TkC (w.heap.size + 1) W cs (i * 7) (L.getD i false)) ∧ ∀ i, j ≤ i → i < L.length → TkC (w.heap.size + 1) W cs (i * 7) false
section
variable {w W W2 : World} {L : List Bool} {j : Nat}
theorem Kq.kept2 (h : Kq w W L j) (kk : Kept W W2) : Kq w W2 L j := by
  obtain ⟨cs, hb, hl, hc, hz⟩ := h.row
  exact ⟨h.kept.trans kk, cs, hb.kept kk, hl, fun i hi => (hc i hi).same (Same.of_kept kk) (fun _ _ => rfl), fun i h1 h2 => (hz i h1 h2).same (Same.of_kept kk) (fun _ _ => rfl)⟩
theorem Kq.has (h : Kq w W L j) (hj : j < L.length) : ∃ v, W.cell? ⟨w.heap.size, j * 7, none⟩ = some v ∧ W.frozen? ⟨w.heap.size, j * 7, none⟩ = false := by
  obtain ⟨cs, hb, hl, _⟩ := h.row
  exact hb.has (by rw [hl]; have := Nat.mul_le_mul_right 7 (show j + 1 ≤ L.length by omega); omega)
theorem Kq.skip (h : Kq w W L j) (hj : j < L.length) (ho : L.getD j false = false) : Kq w W L (j + 1) := by
  obtain ⟨cs, hb, hl, hc, hz⟩ := h.row
  refine ⟨h.kept, cs, hb, hl, fun i hi => ?_, fun i h1 h2 => hz i (by omega) h2⟩
  by_cases e : i = j
  · subst e; rw [ho]; exact hz i (Nat.le_refl _) hj
  · exact hc i (by omega)
theorem Kq.put (h : Kq w W L j) (hj : j < L.length) (ho : L.getD j false = true) {q : Nat} {a : Option Addr} {c : Nat} (hq : w.heap.size + 1 ≤ q) (hc0 : W.cell? ⟨q, 0, none⟩ = some (.slice a 0 c)) (hcm : c ≤ 9223372036854775807) : Kq w (W.setCell ⟨w.heap.size, j * 7, none⟩ (.pointer (some ⟨q, 0, none⟩))) L (j + 1) := by
  obtain ⟨cs, hb, hl, hc, hz⟩ := h.row
  have hlim : j * 7 + 7 ≤ L.length * 7 := by have := Nat.mul_le_mul_right 7 (show j + 1 ≤ L.length by omega); omega
  have s := Same.set (lo := w.heap.size + 1) W (Nat.lt_succ_self w.heap.size) (j * 7) (.pointer (some ⟨q, 0, none⟩))
  refine ⟨h.kept.setCell (Nat.le_refl _) _, _, hb.set (j * 7) _, by simpa using hl, fun i hi => ?_, fun i h1 h2 => ?_⟩
  · by_cases e : i = j
    · subst e
      rw [ho]
      obtain ⟨_, h1, h2, h3, h4, h5, h6⟩ := hz i (Nat.le_refl _) hj
      exact ⟨.inr ⟨rfl, q, a, c, hq, by rw [List.getElem?_set_self (by omega)], s.cell hq hc0, hcm⟩, by rw [List.getElem?_set_ne (by omega)]; exact h1, by rw [List.getElem?_set_ne (by omega)]; exact h2, by rw [List.getElem?_set_ne (by omega)]; exact h3, by rw [List.getElem?_set_ne (by omega)]; exact h4, by rw [List.getElem?_set_ne (by omega)]; exact h5, by rw [List.getElem?_set_ne (by omega)]; exact h6⟩
    · exact (hc i (by omega)).same s fun j2 hj2 => by rw [List.getElem?_set_ne (by omega)]
  · exact (hz i (by omega) h2).same s fun j2 hj2 => by rw [List.getElem?_set_ne (by omega)]
theorem Kq.fin (h : Kq w W L L.length) (hm : L.length ≤ 65536) {lo : Nat} (hlo : lo ≤ w.heap.size) : Sl W (.slice (some ⟨w.heap.size, 0, none⟩) L.length L.length) L.length 7 (fun b o i => TkLx lo W b o (L.getD i false)) := by
  obtain ⟨cs, hb, hl, hc, _⟩ := h.row
  refine ⟨_, _, rfl, Nat.le_refl _, by unfold maxLen; omega, (fun e => by cases e), fun _ => ⟨_, 0, rfl, hb.lt, fun i hi => ?_⟩⟩
  obtain ⟨h0, h1, h2, h3, h4, h5, h6⟩ := hc i hi
  rw [Nat.zero_add]
  refine ⟨hlo, ?_, by rw [hb.cell]; exact h1, by rw [hb.cell]; exact h2, by rw [hb.cell]; exact h3, by rw [hb.cell]; exact h4, by rw [hb.cell]; exact h5, by rw [hb.cell]; exact h6⟩
  rcases h0 with ⟨g1, g2⟩ | ⟨g1, q, a, c, hq, g2, g3, g4⟩
  · exact .inl ⟨g1, by rw [hb.cell]; exact g2⟩
  · exact .inr ⟨g1, q, a, c, by omega, by rw [hb.cell]; exact g2, g3, g4⟩
end
/-- fresh tokens are all zero -/
theorem made54 (n : Nat) (hn : n ≤ 65536) : ∃ C : List Value, C.length = n * 7 ∧ (∀ (W : World) (lo i : Nat), i < n → TkC lo W C (i * 7) false) ∧ ∀ w : World, (Instr.makeSlice 47 (.int .i64 (n : Int)) (.int .i64 (n : Int))).run Try.prog w = .ok (.slice (some ⟨w.heap.size, 0, none⟩) n n) (w.alloc (.cells C.toArray 54)) := by
  obtain ⟨C, l1, _, g1, m1⟩ := makeN1 (T := 47) (E := 54) (size := 7) (bytes := 40) Try.underlying47 (by kernel_rfl) (by kernel_rfl) n (by omega) (by omega)
  exact ⟨C, l1, fun W lo i hi => ⟨.inl ⟨rfl, g1 0 _ (by omega) (by kernel_rfl) i hi⟩, g1 1 _ (by omega) (by kernel_rfl) i hi, g1 2 _ (by omega) (by kernel_rfl) i hi, g1 3 _ (by omega) (by kernel_rfl) i hi, g1 4 _ (by omega) (by kernel_rfl) i hi, g1 5 _ (by omega) (by kernel_rfl) i hi, g1 6 _ (by omega) (by kernel_rfl) i hi⟩, m1⟩
end Go.Proofs.Ytimllpocefbcbaa.wr
