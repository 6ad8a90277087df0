/-
  The linker's files, the table of resolved exports and the bindings in memory over this seat's program; the append that keeps the old slice.
  Conditions: none.
-/
import Derived.Test.YtknmcbhcbomjmaaTurn
import Derived.Test.YtknmcbhcbomjmaaMk1
import Derived.Test.YtknmcbhcbomjmaaMapF
import Derived.Test.YtknmcbhcbomjmaaMapV
import Derived.Test.YtknmcbhcbomjmaaPb
import Derived.ArgAppend
import Derived.StringKeys
namespace Go.Proofs.Ytknmcbhcbomjmaa.xs
open Go.ChangeShapes Go.WideShapes Go.ChangeAt Go.RowKit
open kit mapf mapv
open Go.Maps (Keyed)
open Go.ChangeMaps (setBlock)

theorem laidOut : laidOutB Try.prog = true := by kernel_rfl
theorem K9 : Keyed Try.prog 9 := Keyed.of_law (WideMaps.string_law Try.underlying9)
theorem K44 : Keyed Try.prog 44 := Keyed.of_law (deep_law_laid laidOut (m := 2) (by omega) (of_decide_eq_true (by kernel_rfl)) (by kernel_rfl) (by kernel_rfl))
theorem cc23 : Try.prog.cellsOf 23 = 1 := by kernel_rfl
theorem cc44 : Try.prog.cellsOf 44 = 2 := by kernel_rfl
theorem kt44 : Try.prog.keyType 44 = true := by kernel_rfl
theorem wf32 (i : Nat) (h : i ≤ 4294967295) : (Lit.int .u32 (i : Int)).wf = true := by
  simp only [Lit.wf, Bool.and_eq_true, decide_eq_true_eq]
  have a : (0 : Int) ≤ (i : Int) := by omega
  have b : (i : Int) ≤ 4294967295 := by omega
  exact ⟨a, b⟩
def refK (t j : Nat) : Value := .agg #[.int .u32 (t : Int), .int .u32 (j : Int)]
theorem refK_inj {t j t2 j2 : Nat} (h : refK t j = refK t2 j2) : t = t2 ∧ j = j2 := by
  unfold refK at h
  simp only [Value.agg.injEq, Array.mk.injEq, List.cons.injEq, Value.int.injEq, true_and, and_true] at h
  omega
set_option maxRecDepth 100000 in
theorem key44 (t j : Nat) (ht : t ≤ 4294967295) (hj : j ≤ 4294967295) : ∃ kl, keyOf Try.prog 44 (refK t j) = some kl := by
  have hw1 := wf32 t ht
  have hw2 := wf32 j hj
  have k2 : (refK t j).formed Try.prog 44 = true := by
    unfold refK Value.formed
    simp only [Try.underlying44, cc44]
    rfl
  obtain ⟨M, hM⟩ : ∃ M, Try.prog.types.size = M + 1 := ⟨Try.prog.types.size - 1, by have : 0 < Try.prog.types.size := of_decide_eq_true (by kernel_rfl); omega⟩
  unfold keyOf
  rw [Try.underlying44]
  simp only [kt44, k2, Bool.and_true, if_true, hM]
  have hl : ∃ ls, Try.prog.keyLits (M + 1 + 1) 44 (refK t j).cells.toList = some ls := by
    unfold refK Value.cells
    simp [Program.keyLits, Try.underlying44, Try.underlying23, cc44, cc23, hw1, hw2]
  obtain ⟨ls, hls⟩ := hl
  rw [hls]
  exact ⟨_, rfl⟩

/-! ### what the maps hold -/
def neV (i : Nat) (g : ByteArray → Option Nat) : Value → Option Value
  | .string s => (g s).map fun (j : Nat) => .agg #[.int .u32 (i : Int), .int .u32 (j : Int), .int .i32 0]
  | _ => none
def resE (v : Value) (t j : Nat) : Value := .agg #[v, .int .u32 (t : Int), .int .u32 (j : Int), .int .i32 0, .int .u32 (t : Int)]
def resV (V : ByteArray → Value) (ρ : ByteArray → Option Ent) : Value → Option Value
  | .string s => (ρ s).map fun e => resE (V s) e.src e.j
  | _ => none
def imp (t j : Nat) : List Value := [.slice none 0 0, .int .i32 0, .int .u32 (t : Int), .int .u32 (j : Int), .int .u32 (t : Int)]
def impV (t j : Nat) : Value := .agg #[.slice none 0 0, .int .i32 0, .int .u32 (t : Int), .int .u32 (j : Int), .int .u32 (t : Int)]
def ambV (l : List (Nat × Nat)) : List Value := l.flatMap fun q => imp q.1 q.2
theorem ambV_snoc (l : List (Nat × Nat)) (t j : Nat) : ambV l ++ imp t j = ambV (l ++ [(t, j)]) := by
  unfold ambV
  rw [List.flatMap_append]
  simp
theorem ambV_len (l : List (Nat × Nat)) : (ambV l).length = l.length * 5 := by
  induction l with
  | nil => rfl
  | cons q l ih =>
    show (imp q.1 q.2 ++ ambV l).length = _
    rw [List.length_append, ih]
    simp [imp]
    omega
noncomputable def bndV (β : Nat × Nat → Bool) : Value → Option Value := fun v => open Classical in
  if ∃ q : Nat × Nat, v = refK q.1 q.2 ∧ β q = true then (match v with | .agg #[a, b] => some (.agg #[.slice none 0 0, .int .i32 0, a, b, a]) | _ => none) else none
theorem bndV_ref (β : Nat × Nat → Bool) (t j : Nat) : bndV β (refK t j) = if β (t, j) = true then some (impV t j) else none := by
  unfold bndV
  by_cases h : β (t, j) = true
  · rw [if_pos ⟨(t, j), rfl, h⟩, if_pos h]
    rfl
  · rw [if_neg, if_neg h]
    rintro ⟨⟨t2, j2⟩, e, h2⟩
    obtain ⟨rfl, rfl⟩ := refK_inj e
    exact h h2
theorem bndV_put (β : Nat × Nat → Bool) (t j : Nat) : mapf.put (bndV β) (refK t j) (impV t j) = bndV (upd β (t, j) true) := by
  funext v
  by_cases e : v = refK t j
  · subst e
    rw [mapf.put_same, bndV_ref, upd_same, if_pos rfl]
  · rw [mapf.put_ne _ _ e]
    unfold bndV
    have : (∃ q : Nat × Nat, v = refK q.1 q.2 ∧ β q = true) ↔ (∃ q : Nat × Nat, v = refK q.1 q.2 ∧ upd β (t, j) true q = true) := by
      constructor
      · rintro ⟨q, h1, h2⟩
        exact ⟨q, h1, by rw [upd_ne _ _ (fun c => e (by rw [h1, c]))]; exact h2⟩
      · rintro ⟨q, h1, h2⟩
        exact ⟨q, h1, by rw [upd_ne _ _ (fun c => e (by rw [h1, c]))] at h2; exact h2⟩
    by_cases c : ∃ q : Nat × Nat, v = refK q.1 q.2 ∧ β q = true
    · rw [if_pos c, if_pos (this.1 c)]
    · rw [if_neg c, if_neg (fun h => c (this.2 h))]
theorem resV_put (V : ByteArray → Value) (ρ : ByteArray → Option Ent) (a : ByteArray) (v : Value) (e : Ent) : mapf.put (resV V ρ) (.string a) (resE v e.src e.j) = resV (upd V a v) (upd ρ a (some e)) := by
  funext x
  by_cases c : x = .string a
  · subst c
    rw [mapf.put_same]
    simp [resV, upd_same]
  · rw [mapf.put_ne _ _ c]
    cases x <;> try rfl
    rename_i s
    have : s ≠ a := fun q => c (by rw [q])
    simp [resV, upd_ne _ _ this]

/-! ### the layout -/
structure Lay where
  cb : Nat
  LB : Nat
  n : Nat
  RES : Nat
  B0 : Nat
  J : Nat → Nat
  RB : Nat → Nat
  XB : Nat → Nat
  NB : Nat → Nat
  IB : Nat → Nat
  K : Nat → Nat
  sz : Nat → Nat
  T : Nat → Nat → Option Nat
  ek : Nat → Int
  NE : Nat → ByteArray → Option Nat
/-- what an import record's source index holds -/
def flag (t : Option Nat) : Int := match t with
  | some t => 4294967295 - (t : Int)
  | none => 0
/-- the targets of file i -/
def im (L : Lay) (i : Nat) : List Nat := (List.range (L.K i)).filterMap (L.T i)
def cjs (L : Lay) (t : Nat) : Bool := L.ek t == 1
def Exs (L : Lay) (t : Nat) (a : ByteArray) : Prop := (L.NE t a).isSome = true
/-- the blocks that the call only reads -/
def Rd (L : Lay) (b : Nat) : Prop := b = L.cb ∨ b = L.LB ∨ ∃ i, i < L.n ∧ (b = L.J i ∨ b = L.RB i ∨ b = L.XB i ∨ b = L.NB i)
structure Apt (L : Lay) : Prop where
  rd : ∀ b, Rd L b → b < L.B0 ∧ b ≠ L.RES ∧ ∀ k, k < L.n → b ≠ L.IB k
  res : L.RES < L.B0 ∧ ∀ k, k < L.n → L.RES ≠ L.IB k
  ib : ∀ i, i < L.n → L.IB i < L.B0 ∧ ∀ k, k < L.n → L.IB i = L.IB k → i = k
  top : L.n ≤ 256
  len : ∀ i, i < L.n → L.K i ≤ 262144
  low : ∀ i j t, i < L.n → j < L.K i → L.T i j = some t → t < L.n
  pl : ∀ i a j, i < L.n → L.NE i a = some j → j < 4096
structure Mem (L : Lay) (w : World) : Prop where
  ctx : ∃ cs, Blk w L.cb 201 cs ∧ cs[10]? = some (.slice (some ⟨L.LB, 0, none⟩) L.n L.n)
  repr : ∃ cs, Blk w L.LB 134 cs ∧ ∀ i, i < L.n → cs[i * 24 + 2]? = some (.iface 96 (.pointer (some ⟨L.J i, 0, none⟩)))
  js : ∀ i, i < L.n → ∃ cs, Blk w (L.J i) 95 cs ∧ cs[1]? = some (.map (some (L.IB i))) ∧ cs[35]? = some (.slice (some ⟨L.RB i, 0, none⟩) (L.K i) (L.K i)) ∧ cs[37]? = some (.map (some (L.NB i))) ∧ cs[38]? = some (.slice (some ⟨L.XB i, 0, none⟩) (L.K i) (L.K i)) ∧ cs[62]? = some (.int .u8 (L.ek i))
  recs : ∀ i, i < L.n → ∃ cs, Blk w (L.RB i) 112 cs ∧ ∀ j, j < L.K i → cs[j * 15 + 10]? = some (.int .u32 (flag (L.T i j)))
  idx : ∀ i, i < L.n → ∃ cs, Blk w (L.XB i) 23 cs ∧ ∀ j, j < L.K i → cs[j]? = some (.int .u32 (j : Int))
  ne : ∀ i, i < L.n → MapV Try.prog 9 w (L.NB i) (L.sz i) (neV i (L.NE i))
section
variable {L : Lay} {w w2 : World}
theorem Mem.of_blocks (h : Mem L w) (hb : ∀ b, Rd L b → b < w.heap.size → w2.heap[b]? = w.heap[b]?) : Mem L w2 := by
  obtain ⟨c, h1, h2⟩ := h.ctx
  obtain ⟨c3, h3, h4⟩ := h.repr
  have tr : ∀ {b t cs}, Blk w b t cs → Rd L b → Blk w2 b t cs := fun q r => (hb _ r q.lt).trans q
  refine ⟨⟨c, tr h1 (.inl rfl), h2⟩, ⟨c3, tr h3 (.inr (.inl rfl)), h4⟩, fun i hi => ?_, fun i hi => ?_, fun i hi => ?_, fun i hi => ?_⟩
  · obtain ⟨c5, h5, r⟩ := h.js i hi
    exact ⟨c5, tr h5 (.inr (.inr ⟨i, hi, .inl rfl⟩)), r⟩
  · obtain ⟨c5, h5, r⟩ := h.recs i hi
    exact ⟨c5, tr h5 (.inr (.inr ⟨i, hi, .inr (.inl rfl)⟩)), r⟩
  · obtain ⟨c5, h5, r⟩ := h.idx i hi
    exact ⟨c5, tr h5 (.inr (.inr ⟨i, hi, .inr (.inr (.inl rfl))⟩)), r⟩
  · exact (h.ne i hi).of_block (hb _ (.inr (.inr ⟨i, hi, .inr (.inr (.inr rfl))⟩)) (h.ne i hi).lt)
theorem Mem.kept (h : Mem L w) (k : Kept w w2) : Mem L w2 := h.of_blocks fun b _ hb => k.block b hb
theorem Mem.cell (h : Mem L w) : w.cell? ⟨L.cb, 10, none⟩ = some (.slice (some ⟨L.LB, 0, none⟩) L.n L.n) := by
  obtain ⟨c, h1, h2⟩ := h.ctx
  rw [h1.cell]; exact h2
theorem Mem.file (h : Mem L w) {i : Nat} (hi : i < L.n) : w.cell? ⟨L.LB, i * 24 + 2, none⟩ = some (.iface 96 (.pointer (some ⟨L.J i, 0, none⟩))) := by
  obtain ⟨c, h1, h2⟩ := h.repr
  rw [h1.cell]; exact h2 i hi
theorem Mem.cells (h : Mem L w) {i : Nat} (hi : i < L.n) : w.cell? ⟨L.J i, 1, none⟩ = some (.map (some (L.IB i))) ∧ w.cell? ⟨L.J i, 35, none⟩ = some (.slice (some ⟨L.RB i, 0, none⟩) (L.K i) (L.K i)) ∧ w.cell? ⟨L.J i, 37, none⟩ = some (.map (some (L.NB i))) ∧
    w.cell? ⟨L.J i, 38, none⟩ = some (.slice (some ⟨L.XB i, 0, none⟩) (L.K i) (L.K i)) ∧ w.cell? ⟨L.J i, 62, none⟩ = some (.int .u8 (L.ek i)) := by
  obtain ⟨c, h1, h2, h3, h4, h5, h6⟩ := h.js i hi
  exact ⟨by rw [h1.cell]; exact h2, by rw [h1.cell]; exact h3, by rw [h1.cell]; exact h4, by rw [h1.cell]; exact h5, by rw [h1.cell]; exact h6⟩
theorem Mem.record (h : Mem L w) {i j : Nat} (hi : i < L.n) (hj : j < L.K i) : w.cell? ⟨L.RB i, j * 15 + 10, none⟩ = some (.int .u32 (flag (L.T i j))) := by
  obtain ⟨c, h1, h2⟩ := h.recs i hi
  rw [h1.cell]; exact h2 j hj
theorem Mem.index (h : Mem L w) {i j : Nat} (hi : i < L.n) (hj : j < L.K i) : w.cell? ⟨L.XB i, j, none⟩ = some (.int .u32 (j : Int)) := by
  obtain ⟨c, h1, h2⟩ := h.idx i hi
  rw [h1.cell]; exact h2 j hj

theorem sb_other (w : World) (b : Nat) (o : Obj) {k : Nat} (h : k ≠ b) : (setBlock w b o).heap[k]? = w.heap[k]? := by
  unfold setBlock
  simp [Array.getElem?_setIfInBounds, Ne.symm h]
theorem sb_size (w : World) (b : Nat) (o : Obj) : (setBlock w b o).heap.size = w.heap.size := by simp [setBlock]
/-- block k holds ambiguous others -/
def Is53 (w : World) (k : Nat) : Prop := ∃ cs fr, w.heap[k]? = some (.cells cs 53 fr)
/-- w2 is w but for the tables, the lists of others and the stack's block -/
structure Tn (L : Lay) (sb : Option Nat) (w w2 : World) : Prop where
  os : w2.os = w.os
  tape : w2.tape = w.tape
  output : w2.output = w.output
  size : w.heap.size ≤ w2.heap.size
  block : ∀ k, k < w.heap.size → k ≠ L.RES → (∀ i, i < L.n → k ≠ L.IB i) → some k ≠ sb → (L.B0 ≤ k → ¬ Is53 w k) → w2.heap[k]? = w.heap[k]?
variable {w1 : World} {sb sb2 : Option Nat}
theorem Tn.refl (L : Lay) (sb : Option Nat) (w : World) : Tn L sb w w := ⟨rfl, rfl, rfl, Nat.le_refl _, fun _ _ _ _ _ _ => rfl⟩
theorem Tn.of_kept (k : Kept w w2) (L : Lay) (sb : Option Nat) : Tn L sb w w2 := ⟨k.os, k.tape, k.output, k.size, fun b hb _ _ _ _ => k.block b hb⟩
theorem Tn.trans (h : Tn L sb w w1) (g : Tn L sb2 w1 w2) (hs : ∀ k, k < w.heap.size → sb2 = some k → sb = some k) : Tn L sb w w2 := by
  refine ⟨g.os.trans h.os, g.tape.trans h.tape, g.output.trans h.output, Nat.le_trans h.size g.size, fun k hk h1 h2 h3 h4 => ?_⟩
  have e := h.block k hk h1 h2 h3 h4
  refine (g.block k (Nat.lt_of_lt_of_le hk h.size) h1 h2 (fun c => h3 (hs k hk c.symm).symm) fun hB => ?_).trans e
  rintro ⟨cs, fr, q⟩
  exact h4 hB ⟨cs, fr, e ▸ q⟩
theorem Tn.kept (h : Tn L sb w w1) (k : Kept w1 w2) : Tn L sb w w2 := h.trans (Tn.of_kept k L none) (fun _ _ c => by cases c)
theorem Mem.tn (h : Mem L w) (A : Apt L) (t : Tn L sb w w2) (hs : ∀ k, sb = some k → L.B0 ≤ k) : Mem L w2 := h.of_blocks fun b hr hb => by
  obtain ⟨h1, h2, h3⟩ := A.rd b hr
  exact t.block b hb h2 h3 (fun c => by have := hs b c.symm; omega) (fun c => by omega)
theorem Tn.setRes (w : World) (o : Obj) : Tn L sb w (setBlock w L.RES o) := ⟨rfl, rfl, rfl, by simp [setBlock], fun k _ h1 _ _ _ => sb_other w _ o h1⟩
end
end Go.Proofs.Ytknmcbhcbomjmaa.xs
